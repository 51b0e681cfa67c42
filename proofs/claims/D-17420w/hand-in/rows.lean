section
-- ===== PART A: goes FIRST, ahead of the names: the tables' words, and 'selects' of the private methods out of them =====
/-- a private method of a class that the tables say can be made, by its rows of tables_1 -/
def lw_okq (q : MethodName × Nat) : Prop := (q.1.cls ≠ "java/lang/invoke/MethodHandle" ∧ q.1.cls ≠ "java/lang/invoke/VarHandle") ∧ Cond.instantiable q.1.cls q.2 ∈ tables_1 ∧ Cond.privateMethod q.1 ∈ tables_1 ∧ Cond.instanceMethod q.1 ∈ tables_1
set_option maxRecDepth 100000
theorem lw_t1 {w : Cond} (h : w ∈ tables_1_1) : w ∈ tables_1 := List.mem_append_left _ h
theorem lw_t2 {w : Cond} (h : w ∈ tables_1_2) : w ∈ tables_1 := List.mem_append_right _ h
theorem lw_p0 : lw_okq (⟨"SmDigestDesk", "word", "(II)V"⟩, 5) := ⟨⟨by decide +kernel, by decide +kernel⟩, lw_t1 (List.mem_of_getElem? (i := 10) rfl), lw_t1 (List.mem_of_getElem? (i := 94) rfl), lw_t1 (List.mem_of_getElem? (i := 95) rfl)⟩
theorem lw_p1 : lw_okq (⟨"SmDigestDesk", "from", "(I)I"⟩, 5) := ⟨⟨by decide +kernel, by decide +kernel⟩, lw_t1 (List.mem_of_getElem? (i := 10) rfl), lw_t1 (List.mem_of_getElem? (i := 102) rfl), lw_t1 (List.mem_of_getElem? (i := 103) rfl)⟩
theorem lw_p2 : lw_okq (⟨"SmDigestDesk", "count", "(II)I"⟩, 5) := ⟨⟨by decide +kernel, by decide +kernel⟩, lw_t1 (List.mem_of_getElem? (i := 10) rfl), lw_t1 (List.mem_of_getElem? (i := 115) rfl), lw_t1 (List.mem_of_getElem? (i := 116) rfl)⟩
theorem lw_p3 : lw_okq (⟨"SM3Digest", "P1", "(I)I"⟩, 8) := ⟨⟨by decide +kernel, by decide +kernel⟩, lw_t1 (List.mem_of_getElem? (i := 18) rfl), lw_t1 (List.mem_of_getElem? (i := 145) rfl), lw_t1 (List.mem_of_getElem? (i := 146) rfl)⟩
theorem lw_p4 : lw_okq (⟨"SM3Digest", "FF0", "(III)I"⟩, 8) := ⟨⟨by decide +kernel, by decide +kernel⟩, lw_t1 (List.mem_of_getElem? (i := 18) rfl), lw_t1 (List.mem_of_getElem? (i := 151) rfl), lw_t1 (List.mem_of_getElem? (i := 152) rfl)⟩
theorem lw_p5 : lw_okq (⟨"SM3Digest", "GG0", "(III)I"⟩, 8) := ⟨⟨by decide +kernel, by decide +kernel⟩, lw_t1 (List.mem_of_getElem? (i := 18) rfl), lw_t1 (List.mem_of_getElem? (i := 155) rfl), lw_t1 (List.mem_of_getElem? (i := 156) rfl)⟩
theorem lw_p6 : lw_okq (⟨"SM3Digest", "P0", "(I)I"⟩, 8) := ⟨⟨by decide +kernel, by decide +kernel⟩, lw_t1 (List.mem_of_getElem? (i := 18) rfl), lw_t1 (List.mem_of_getElem? (i := 159) rfl), lw_t1 (List.mem_of_getElem? (i := 160) rfl)⟩
theorem lw_p7 : lw_okq (⟨"SM3Digest", "FF1", "(III)I"⟩, 8) := ⟨⟨by decide +kernel, by decide +kernel⟩, lw_t1 (List.mem_of_getElem? (i := 18) rfl), lw_t1 (List.mem_of_getElem? (i := 163) rfl), lw_t1 (List.mem_of_getElem? (i := 164) rfl)⟩
theorem lw_p8 : lw_okq (⟨"SM3Digest", "GG1", "(III)I"⟩, 8) := ⟨⟨by decide +kernel, by decide +kernel⟩, lw_t1 (List.mem_of_getElem? (i := 18) rfl), lw_t1 (List.mem_of_getElem? (i := 167) rfl), lw_t1 (List.mem_of_getElem? (i := 168) rfl)⟩
theorem lw_p9 : lw_okq (⟨"SmDigestDeskModel", "from", "(I)I"⟩, 8) := ⟨⟨by decide +kernel, by decide +kernel⟩, lw_t1 (List.mem_of_getElem? (i := 235) rfl), lw_t2 (List.mem_of_getElem? (i := 34) rfl), lw_t2 (List.mem_of_getElem? (i := 35) rfl)⟩
theorem lw_p10 : lw_okq (⟨"SmDigestDeskModel", "count", "(II)I"⟩, 8) := ⟨⟨by decide +kernel, by decide +kernel⟩, lw_t1 (List.mem_of_getElem? (i := 235) rfl), lw_t2 (List.mem_of_getElem? (i := 47) rfl), lw_t2 (List.mem_of_getElem? (i := 48) rfl)⟩
theorem lw_p11 : lw_okq (⟨"SmDigestDeskModel", "block", "(II)V"⟩, 8) := ⟨⟨by decide +kernel, by decide +kernel⟩, lw_t1 (List.mem_of_getElem? (i := 235) rfl), lw_t2 (List.mem_of_getElem? (i := 70) rfl), lw_t2 (List.mem_of_getElem? (i := 71) rfl)⟩
theorem lw_p12 : lw_okq (⟨"SmDigestDeskModel", "padded", "(II)I"⟩, 8) := ⟨⟨by decide +kernel, by decide +kernel⟩, lw_t1 (List.mem_of_getElem? (i := 235) rfl), lw_t2 (List.mem_of_getElem? (i := 74) rfl), lw_t2 (List.mem_of_getElem? (i := 75) rfl)⟩
theorem lw_p13 : lw_okq (⟨"SmDigestDeskModel", "round", "(I)V"⟩, 8) := ⟨⟨by decide +kernel, by decide +kernel⟩, lw_t1 (List.mem_of_getElem? (i := 235) rfl), lw_t2 (List.mem_of_getElem? (i := 86) rfl), lw_t2 (List.mem_of_getElem? (i := 87) rfl)⟩
def lw_privs_1 : List (MethodName × Nat) := [(⟨"SmDigestDesk", "word", "(II)V"⟩, 5), (⟨"SmDigestDesk", "from", "(I)I"⟩, 5), (⟨"SmDigestDesk", "count", "(II)I"⟩, 5), (⟨"SM3Digest", "P1", "(I)I"⟩, 8), (⟨"SM3Digest", "FF0", "(III)I"⟩, 8), (⟨"SM3Digest", "GG0", "(III)I"⟩, 8), (⟨"SM3Digest", "P0", "(I)I"⟩, 8), (⟨"SM3Digest", "FF1", "(III)I"⟩, 8), (⟨"SM3Digest", "GG1", "(III)I"⟩, 8), (⟨"SmDigestDeskModel", "from", "(I)I"⟩, 8), (⟨"SmDigestDeskModel", "count", "(II)I"⟩, 8), (⟨"SmDigestDeskModel", "block", "(II)V"⟩, 8), (⟨"SmDigestDeskModel", "padded", "(II)I"⟩, 8), (⟨"SmDigestDeskModel", "round", "(I)V"⟩, 8)]
theorem lw_r1 : ∀ q ∈ lw_privs_1, lw_okq q := List.forall_mem_cons.mpr ⟨lw_p0, List.forall_mem_cons.mpr ⟨lw_p1, List.forall_mem_cons.mpr ⟨lw_p2, List.forall_mem_cons.mpr ⟨lw_p3, List.forall_mem_cons.mpr ⟨lw_p4, List.forall_mem_cons.mpr ⟨lw_p5, List.forall_mem_cons.mpr ⟨lw_p6, List.forall_mem_cons.mpr ⟨lw_p7, List.forall_mem_cons.mpr ⟨lw_p8, List.forall_mem_cons.mpr ⟨lw_p9, List.forall_mem_cons.mpr ⟨lw_p10, List.forall_mem_cons.mpr ⟨lw_p11, List.forall_mem_cons.mpr ⟨lw_p12, List.forall_mem_cons.mpr ⟨lw_p13, fun _ h => absurd h List.not_mem_nil⟩⟩⟩⟩⟩⟩⟩⟩⟩⟩⟩⟩⟩⟩
def lw_privs : List (MethodName × Nat) := lw_privs_1
def lw_tbl : List Cond := k2_sels lw_privs ++ tables_1
theorem lw_privs_ok : ∀ q ∈ lw_privs, lw_okq q := lw_r1
-- ===== ONE list of words for every method: the tables' words that hold all through a run =====
def lw_all : List Cond := lw_tbl.filter goodWord
/-- a word of the tables by its place: claim/WORDS.tsv -/
theorem lw_w {w : Cond} (i : Nat) (h : lw_tbl[i]? = some w) (g : goodWord w = true) : w ∈ lw_all := List.mem_filter.mpr ⟨List.mem_of_getElem? h, g⟩
theorem lw_all_tbl {w : Cond} (h : w ∈ lw_all) : w ∈ lw_tbl := (List.mem_filter.mp h).1
theorem lw_self : GoodIn lw_all lw_all := fun w h => ⟨h, good_of_word (List.mem_filter.mp h).2⟩
/-- a class's field words, by their places -/
theorem lw_in (ws : List Cond) (ps : List Nat) (hp : ws = ps.filterMap (fun i => lw_tbl[i]?)) (hg : ws.all goodWord = true) : ∀ w ∈ ws, w ∈ lw_all := by
  intro w h
  have h1 := List.all_eq_true.mp hg w h
  rw [hp] at h
  obtain ⟨i, -, hi⟩ := List.mem_filterMap.mp h
  exact lw_w i hi h1
/-- the words of a contract for the method y with code b, L locals, answer r -/
abbrev ws_ (y : MethodName) (b : ByteArray) (L : Nat) (r : Option FieldType) : List Cond := Cond.code y b L r :: lw_all
theorem lw_meth {y : MethodName} {b : ByteArray} {L : Nat} {r : Option FieldType} (h : Cond.code y b L r ∈ lw_all) : GoodIn lw_all (ws_ y b L r) := by
  intro w hw
  rcases List.mem_cons.mp hw with e | e
  · rw [e]
    exact lw_self _ h
  · exact lw_self _ e
theorem lw_app {a c : List Cond} (ha : ∀ w ∈ a, w ∈ lw_all) (hc : GoodIn lw_all c) : GoodIn lw_all (a ++ c) := by
  intro w hw
  rcases List.mem_append.mp hw with e | e
  · exact lw_self w (ha w e)
  · exact hc w e
/-- what a call through an object asks: cwV n hts (lw_V ..) -/
theorem lw_V {own : String} {idx : Nat} {C : String} {y : MethodName} {b : ByteArray} {L : Nat} {r : Option FieldType} (h1 : Cond.methodLink own idx y ∈ lw_all) (h2 : Cond.instanceMethod y ∈ lw_all) (h3 : Cond.selects C y y ∈ lw_all) (h4 : Cond.initialized C ∈ lw_all) (h5 : Cond.code y b L r ∈ lw_all) : GoodIn lw_all (wsV own idx C y (ws_ y b L r)) := by
  refine lw_app ?_ (lw_meth h5)
  intro w hw
  simp only [List.mem_cons, List.not_mem_nil, or_false] at hw
  rcases hw with e | e | e | e
  · rw [e]; exact h1
  · rw [e]; exact h2
  · rw [e]; exact h3
  · rw [e]; exact h4
/-- what a static call asks: va_cwS n hts (lw_S ..) -/
theorem lw_S {own : String} {idx : Nat} {y : MethodName} {b : ByteArray} {L : Nat} {r : Option FieldType} (h1 : Cond.methodLink own idx y ∈ lw_all) (h2 : Cond.static y ∈ lw_all) (h3 : Cond.initialized y.cls ∈ lw_all) (h4 : Cond.code y b L r ∈ lw_all) : GoodIn lw_all (va_wsS own idx y (ws_ y b L r)) := by
  refine lw_app ?_ (lw_meth h4)
  intro w hw
  simp only [List.mem_cons, List.not_mem_nil, or_false] at hw
  rcases hw with e | e | e
  · rw [e]; exact h1
  · rw [e]; exact h2
  · rw [e]; exact h3
/-- the words of a contract for a method WITH HANDLERS (hh: its table) -/
abbrev wsW_ (y : MethodName) (b : ByteArray) (L : Nat) (r : Option FieldType) (hh : List (Nat × Nat × Nat × Nat)) : List Cond := Cond.codeWith y b L r hh :: lw_all
theorem lw_methW {y : MethodName} {b : ByteArray} {L : Nat} {r : Option FieldType} {hh : List (Nat × Nat × Nat × Nat)} (h : Cond.codeWith y b L r hh ∈ lw_all) : GoodIn lw_all (wsW_ y b L r hh) := by
  intro w hw
  rcases List.mem_cons.mp hw with e | e
  · rw [e]
    exact lw_self _ h
  · exact lw_self _ e
/-- any list of words by their places (lw_in), good -/
theorem lw_good {ws : List Cond} (h : ∀ w ∈ ws, w ∈ lw_all) : GoodIn lw_all ws := fun w hw => lw_self w (h w hw)
/-- what a call of a method with handlers asks: vx_cwVW n hts (lw_VW ..), vx_cwSW n hts (lw_SW ..) -/
theorem lw_VW {own : String} {idx : Nat} {C : String} {y : MethodName} {b : ByteArray} {L : Nat} {r : Option FieldType} {hh : List (Nat × Nat × Nat × Nat)} (h1 : Cond.methodLink own idx y ∈ lw_all) (h2 : Cond.instanceMethod y ∈ lw_all) (h3 : Cond.selects C y y ∈ lw_all) (h4 : Cond.initialized C ∈ lw_all) (h5 : Cond.codeWith y b L r hh ∈ lw_all) : GoodIn lw_all (wsV own idx C y (wsW_ y b L r hh)) := by
  refine lw_app ?_ (lw_methW h5)
  intro w hw
  simp only [List.mem_cons, List.not_mem_nil, or_false] at hw
  rcases hw with e | e | e | e
  · rw [e]; exact h1
  · rw [e]; exact h2
  · rw [e]; exact h3
  · rw [e]; exact h4
theorem lw_SW {own : String} {idx : Nat} {y : MethodName} {b : ByteArray} {L : Nat} {r : Option FieldType} {hh : List (Nat × Nat × Nat × Nat)} (h1 : Cond.methodLink own idx y ∈ lw_all) (h2 : Cond.static y ∈ lw_all) (h3 : Cond.initialized y.cls ∈ lw_all) (h4 : Cond.codeWith y b L r hh ∈ lw_all) : GoodIn lw_all (va_wsS own idx y (wsW_ y b L r hh)) := by
  refine lw_app ?_ (lw_methW h4)
  intro w hw
  simp only [List.mem_cons, List.not_mem_nil, or_false] at hw
  rcases hw with e | e | e
  · rw [e]; exact h1
  · rw [e]; exact h2
  · rw [e]; exact h3
/-- a word by its place in its run of the tables -/
theorem lw_at {r : List Cond} (hr : ∀ w ∈ r, w ∈ lw_tbl) {w : Cond} (i : Nat) (h : r[i]? = some w) : w ∈ lw_tbl := hr w (List.mem_of_getElem? h)
theorem lw_g {w : Cond} (h : w ∈ lw_tbl) (g : goodWord w = true) : w ∈ lw_all := List.mem_filter.mpr ⟨h, g⟩
theorem lw_ms : ∀ w ∈ k2_sels lw_privs, w ∈ lw_tbl := fun w h => show w ∈ k2_sels lw_privs ++ tables_1 from List.mem_append_left _ h
theorem lw_m1 : ∀ w ∈ tables_1_1, w ∈ lw_tbl := fun w h => show w ∈ k2_sels lw_privs ++ tables_1 from List.mem_append_right (k2_sels lw_privs) (show w ∈ tables_1 from List.mem_append_left _ h)
theorem lw_m2 : ∀ w ∈ tables_1_2, w ∈ lw_tbl := fun w h => show w ∈ k2_sels lw_privs ++ tables_1 from List.mem_append_right (k2_sels lw_privs) (show w ∈ tables_1 from List.mem_append_right _ h)
theorem qs0 : (Cond.selects "SmDigestDesk" ⟨"SmDigestDesk", "word", "(II)V"⟩ ⟨"SmDigestDesk", "word", "(II)V"⟩) ∈ lw_all := lw_g (lw_at lw_ms 0 rfl) rfl
theorem qs1 : (Cond.selects "SmDigestDesk" ⟨"SmDigestDesk", "from", "(I)I"⟩ ⟨"SmDigestDesk", "from", "(I)I"⟩) ∈ lw_all := lw_g (lw_at lw_ms 1 rfl) rfl
theorem qs2 : (Cond.selects "SmDigestDesk" ⟨"SmDigestDesk", "count", "(II)I"⟩ ⟨"SmDigestDesk", "count", "(II)I"⟩) ∈ lw_all := lw_g (lw_at lw_ms 2 rfl) rfl
theorem qs3 : (Cond.selects "SM3Digest" ⟨"SM3Digest", "P1", "(I)I"⟩ ⟨"SM3Digest", "P1", "(I)I"⟩) ∈ lw_all := lw_g (lw_at lw_ms 3 rfl) rfl
theorem qs4 : (Cond.selects "SM3Digest" ⟨"SM3Digest", "FF0", "(III)I"⟩ ⟨"SM3Digest", "FF0", "(III)I"⟩) ∈ lw_all := lw_g (lw_at lw_ms 4 rfl) rfl
theorem qs5 : (Cond.selects "SM3Digest" ⟨"SM3Digest", "GG0", "(III)I"⟩ ⟨"SM3Digest", "GG0", "(III)I"⟩) ∈ lw_all := lw_g (lw_at lw_ms 5 rfl) rfl
theorem qs6 : (Cond.selects "SM3Digest" ⟨"SM3Digest", "P0", "(I)I"⟩ ⟨"SM3Digest", "P0", "(I)I"⟩) ∈ lw_all := lw_g (lw_at lw_ms 6 rfl) rfl
theorem qs7 : (Cond.selects "SM3Digest" ⟨"SM3Digest", "FF1", "(III)I"⟩ ⟨"SM3Digest", "FF1", "(III)I"⟩) ∈ lw_all := lw_g (lw_at lw_ms 7 rfl) rfl
theorem qs8 : (Cond.selects "SM3Digest" ⟨"SM3Digest", "GG1", "(III)I"⟩ ⟨"SM3Digest", "GG1", "(III)I"⟩) ∈ lw_all := lw_g (lw_at lw_ms 8 rfl) rfl
theorem qs9 : (Cond.selects "SmDigestDeskModel" ⟨"SmDigestDeskModel", "from", "(I)I"⟩ ⟨"SmDigestDeskModel", "from", "(I)I"⟩) ∈ lw_all := lw_g (lw_at lw_ms 9 rfl) rfl
theorem qs10 : (Cond.selects "SmDigestDeskModel" ⟨"SmDigestDeskModel", "count", "(II)I"⟩ ⟨"SmDigestDeskModel", "count", "(II)I"⟩) ∈ lw_all := lw_g (lw_at lw_ms 10 rfl) rfl
theorem qs11 : (Cond.selects "SmDigestDeskModel" ⟨"SmDigestDeskModel", "block", "(II)V"⟩ ⟨"SmDigestDeskModel", "block", "(II)V"⟩) ∈ lw_all := lw_g (lw_at lw_ms 11 rfl) rfl
theorem qs12 : (Cond.selects "SmDigestDeskModel" ⟨"SmDigestDeskModel", "padded", "(II)I"⟩ ⟨"SmDigestDeskModel", "padded", "(II)I"⟩) ∈ lw_all := lw_g (lw_at lw_ms 12 rfl) rfl
theorem qs13 : (Cond.selects "SmDigestDeskModel" ⟨"SmDigestDeskModel", "round", "(I)V"⟩ ⟨"SmDigestDeskModel", "round", "(I)V"⟩) ∈ lw_all := lw_g (lw_at lw_ms 13 rfl) rfl
-- ===== end of PART A; then your names; then what follows =====
end
section
/-! DECODE ROWS BY BYTES: one lemma an opcode; a method's code is cut into short pieces once, and a row reads its own piece alone. -/
set_option maxRecDepth 100000
/-- the code has just these bytes from pc on -/
def DkAt (code : ByteArray) (pc : Nat) (bs : List UInt8) : Prop := ∀ (j : Nat) (b : UInt8), bs[j]? = some b → code.data.toList[pc + j]? = some b
/-- the piece W has the bytes bs from its place j on -/
def dkIn (W : List UInt8) (j : Nat) (bs : List UInt8) : Bool := decide ((W.drop j).take bs.length = bs)
theorem dk_seg {l W T : List UInt8} {o o2 : Nat} (h : l.drop o = W ++ T) (n : Nat) (hn : W.length = n) (ho : o + n = o2) : l.drop o2 = T := by
  subst ho
  rw [← List.drop_drop, h, List.drop_left' hn]
theorem dk_at {code : ByteArray} {W T bs : List UInt8} {o pc : Nat} (h : code.data.toList.drop o = W ++ T) (j : Nat) (hp : o + j = pc) (hw : dkIn W j bs = true) : DkAt code pc bs := by
  subst hp
  intro i b e
  have h1 := of_decide_eq_true hw
  have h2 : i < bs.length := (List.getElem?_eq_some_iff.mp e).1
  have h3 : W[j + i]? = some b := by
    rw [← h1, List.getElem?_take, if_pos h2, List.getElem?_drop] at e
    exact e
  have h4 : j + i < W.length := (List.getElem?_eq_some_iff.mp h3).1
  have h5 : (code.data.toList.drop o)[j + i]? = some b := by
    rw [h, List.getElem?_append_left h4]
    exact h3
  rw [List.getElem?_drop, ← Nat.add_assoc] at h5
  exact h5
theorem dk_u1 {A : ByteArray} {p : Nat} {b : UInt8} (h : A.data.toList[p]? = some b) : (Reader.u1 : Reader DecodeError Nat) A p = .ok (b.toNat, p + 1) := by
  obtain ⟨h1, h2⟩ := List.getElem?_eq_some_iff.mp h
  have h3 : p < A.size := by simpa using h1
  have h4 : A[p]'h3 = b := h2
  have e : (Reader.u1 : Reader DecodeError Nat) A p = (if h : p < A.size then .ok (A[p].toNat, p + 1) else .error (HasTruncated.truncated p)) := by
    show (do if h : p < A.size then do set (p + 1); Pure.pure A[p].toNat else MonadExcept.throw (HasTruncated.truncated p) : Reader DecodeError Nat) A p = _
    by_cases hi : p < A.size
    · rw [dif_pos hi, dif_pos hi]; rfl
    · rw [dif_neg hi, dif_neg hi]; rfl
  rw [e, dif_pos h3, h4]
theorem dk_bind {α β : Type} {r : Reader DecodeError α} {f : α → Reader DecodeError β} {A : ByteArray} {p s : Nat} {a : α} (h : r A p = .ok (a, s)) : (r >>= f) A p = f a A s := by
  show (do let (a, s) ← r A p; f a A s : Except DecodeError (β × Nat)) = _
  rw [h]
  rfl
theorem dk_map {α β : Type} {r : Reader DecodeError α} {g : α → β} {A : ByteArray} {p s : Nat} {a : α} (h : r A p = .ok (a, s)) : (g <$> r) A p = .ok (g a, s) := by
  show (do let (a, s) ← r A p; .ok (g a, s) : Except DecodeError (β × Nat)) = _
  rw [h]
  rfl
theorem dk_u2 {A : ByteArray} {p : Nat} {a b : UInt8} (h : A.data.toList[p]? = some a) (h2 : A.data.toList[p + 1]? = some b) : (Reader.u2 : Reader DecodeError Nat) A p = .ok (a.toNat * 256 + b.toNat, p + 2) := by
  show (Reader.u1 >>= fun hi => Reader.u1 >>= fun lo => Pure.pure (hi * 256 + lo) : Reader DecodeError Nat) A p = _
  rw [dk_bind (dk_u1 h), dk_bind (dk_u1 h2)]
  rfl
theorem dk_of {code : ByteArray} {pc n : Nat} {i : Instr} (h : Decoder.instr pc code pc = .ok (i, pc + n)) : decode code pc = .ok (i, n) := by
  have e : decode code pc = (match Decoder.instr pc code pc with | .error x => .error x | .ok (j, s) => .ok (j, s - pc)) := by
    show (do let (j, s) ← Decoder.instr pc code pc; Pure.pure (j, s - pc) : Except DecodeError (Instr × Nat)) = _
    cases Decoder.instr pc code pc <;> rfl
  rw [e, h]
  show Except.ok (i, pc + n - pc) = _
  rw [Nat.add_sub_cancel_left]
theorem dk_2 {code : ByteArray} {pc : Nat} (h : DkAt code pc [2]) : decode code pc = .ok (.iconst (-1), 1) := dk_of ((dk_bind (dk_u1 (h 0 _ rfl))).trans rfl)
theorem dk_3 {code : ByteArray} {pc : Nat} (h : DkAt code pc [3]) : decode code pc = .ok (.iconst 0, 1) := dk_of ((dk_bind (dk_u1 (h 0 _ rfl))).trans rfl)
theorem dk_4 {code : ByteArray} {pc : Nat} (h : DkAt code pc [4]) : decode code pc = .ok (.iconst 1, 1) := dk_of ((dk_bind (dk_u1 (h 0 _ rfl))).trans rfl)
theorem dk_5 {code : ByteArray} {pc : Nat} (h : DkAt code pc [5]) : decode code pc = .ok (.iconst 2, 1) := dk_of ((dk_bind (dk_u1 (h 0 _ rfl))).trans rfl)
theorem dk_6 {code : ByteArray} {pc : Nat} (h : DkAt code pc [6]) : decode code pc = .ok (.iconst 3, 1) := dk_of ((dk_bind (dk_u1 (h 0 _ rfl))).trans rfl)
theorem dk_7 {code : ByteArray} {pc : Nat} (h : DkAt code pc [7]) : decode code pc = .ok (.iconst 4, 1) := dk_of ((dk_bind (dk_u1 (h 0 _ rfl))).trans rfl)
theorem dk_8 {code : ByteArray} {pc : Nat} (h : DkAt code pc [8]) : decode code pc = .ok (.iconst 5, 1) := dk_of ((dk_bind (dk_u1 (h 0 _ rfl))).trans rfl)
theorem dk_9 {code : ByteArray} {pc : Nat} (h : DkAt code pc [9]) : decode code pc = .ok (.lconst 0, 1) := dk_of ((dk_bind (dk_u1 (h 0 _ rfl))).trans rfl)
theorem dk_10 {code : ByteArray} {pc : Nat} (h : DkAt code pc [10]) : decode code pc = .ok (.lconst 1, 1) := dk_of ((dk_bind (dk_u1 (h 0 _ rfl))).trans rfl)
theorem dk_16 {code : ByteArray} {pc : Nat} (a : UInt8) (h : DkAt code pc [16, a]) : decode code pc = .ok (.bipush (Reader.signed 8 a.toNat), 2) := dk_of ((dk_bind (dk_u1 (h 0 _ rfl))).trans ((dk_bind (dk_map (dk_u1 (h 1 _ rfl)))).trans rfl))
theorem dk_17 {code : ByteArray} {pc : Nat} (a b : UInt8) (h : DkAt code pc [17, a, b]) : decode code pc = .ok (.sipush (Reader.signed 16 (a.toNat * 256 + b.toNat)), 3) := dk_of ((dk_bind (dk_u1 (h 0 _ rfl))).trans ((dk_bind (dk_map (dk_u2 (h 1 _ rfl) (h 2 _ rfl)))).trans rfl))
theorem dk_18 {code : ByteArray} {pc : Nat} (a : UInt8) (h : DkAt code pc [18, a]) : decode code pc = .ok (.ldc a.toNat, 2) := dk_of ((dk_bind (dk_u1 (h 0 _ rfl))).trans ((dk_bind (dk_u1 (h 1 _ rfl))).trans rfl))
theorem dk_20 {code : ByteArray} {pc : Nat} (a b : UInt8) (h : DkAt code pc [20, a, b]) : decode code pc = .ok (.ldc2_w (a.toNat * 256 + b.toNat), 3) := dk_of ((dk_bind (dk_u1 (h 0 _ rfl))).trans ((dk_bind (dk_u2 (h 1 _ rfl) (h 2 _ rfl))).trans rfl))
theorem dk_21 {code : ByteArray} {pc : Nat} (a : UInt8) (h : DkAt code pc [21, a]) : decode code pc = .ok (.iload a.toNat, 2) := dk_of ((dk_bind (dk_u1 (h 0 _ rfl))).trans ((dk_bind (dk_u1 (h 1 _ rfl))).trans rfl))
theorem dk_26 {code : ByteArray} {pc : Nat} (h : DkAt code pc [26]) : decode code pc = .ok (.iload_n 0, 1) := dk_of ((dk_bind (dk_u1 (h 0 _ rfl))).trans rfl)
theorem dk_27 {code : ByteArray} {pc : Nat} (h : DkAt code pc [27]) : decode code pc = .ok (.iload_n 1, 1) := dk_of ((dk_bind (dk_u1 (h 0 _ rfl))).trans rfl)
theorem dk_28 {code : ByteArray} {pc : Nat} (h : DkAt code pc [28]) : decode code pc = .ok (.iload_n 2, 1) := dk_of ((dk_bind (dk_u1 (h 0 _ rfl))).trans rfl)
theorem dk_29 {code : ByteArray} {pc : Nat} (h : DkAt code pc [29]) : decode code pc = .ok (.iload_n 3, 1) := dk_of ((dk_bind (dk_u1 (h 0 _ rfl))).trans rfl)
theorem dk_31 {code : ByteArray} {pc : Nat} (h : DkAt code pc [31]) : decode code pc = .ok (.lload_n 1, 1) := dk_of ((dk_bind (dk_u1 (h 0 _ rfl))).trans rfl)
theorem dk_42 {code : ByteArray} {pc : Nat} (h : DkAt code pc [42]) : decode code pc = .ok (.aload_n 0, 1) := dk_of ((dk_bind (dk_u1 (h 0 _ rfl))).trans rfl)
theorem dk_43 {code : ByteArray} {pc : Nat} (h : DkAt code pc [43]) : decode code pc = .ok (.aload_n 1, 1) := dk_of ((dk_bind (dk_u1 (h 0 _ rfl))).trans rfl)
theorem dk_44 {code : ByteArray} {pc : Nat} (h : DkAt code pc [44]) : decode code pc = .ok (.aload_n 2, 1) := dk_of ((dk_bind (dk_u1 (h 0 _ rfl))).trans rfl)
theorem dk_46 {code : ByteArray} {pc : Nat} (h : DkAt code pc [46]) : decode code pc = .ok (.iaload, 1) := dk_of ((dk_bind (dk_u1 (h 0 _ rfl))).trans rfl)
theorem dk_51 {code : ByteArray} {pc : Nat} (h : DkAt code pc [51]) : decode code pc = .ok (.baload, 1) := dk_of ((dk_bind (dk_u1 (h 0 _ rfl))).trans rfl)
theorem dk_54 {code : ByteArray} {pc : Nat} (a : UInt8) (h : DkAt code pc [54, a]) : decode code pc = .ok (.istore a.toNat, 2) := dk_of ((dk_bind (dk_u1 (h 0 _ rfl))).trans ((dk_bind (dk_u1 (h 1 _ rfl))).trans rfl))
theorem dk_60 {code : ByteArray} {pc : Nat} (h : DkAt code pc [60]) : decode code pc = .ok (.istore_n 1, 1) := dk_of ((dk_bind (dk_u1 (h 0 _ rfl))).trans rfl)
theorem dk_61 {code : ByteArray} {pc : Nat} (h : DkAt code pc [61]) : decode code pc = .ok (.istore_n 2, 1) := dk_of ((dk_bind (dk_u1 (h 0 _ rfl))).trans rfl)
theorem dk_62 {code : ByteArray} {pc : Nat} (h : DkAt code pc [62]) : decode code pc = .ok (.istore_n 3, 1) := dk_of ((dk_bind (dk_u1 (h 0 _ rfl))).trans rfl)
theorem dk_64 {code : ByteArray} {pc : Nat} (h : DkAt code pc [64]) : decode code pc = .ok (.lstore_n 1, 1) := dk_of ((dk_bind (dk_u1 (h 0 _ rfl))).trans rfl)
theorem dk_76 {code : ByteArray} {pc : Nat} (h : DkAt code pc [76]) : decode code pc = .ok (.astore_n 1, 1) := dk_of ((dk_bind (dk_u1 (h 0 _ rfl))).trans rfl)
theorem dk_77 {code : ByteArray} {pc : Nat} (h : DkAt code pc [77]) : decode code pc = .ok (.astore_n 2, 1) := dk_of ((dk_bind (dk_u1 (h 0 _ rfl))).trans rfl)
theorem dk_79 {code : ByteArray} {pc : Nat} (h : DkAt code pc [79]) : decode code pc = .ok (.iastore, 1) := dk_of ((dk_bind (dk_u1 (h 0 _ rfl))).trans rfl)
theorem dk_84 {code : ByteArray} {pc : Nat} (h : DkAt code pc [84]) : decode code pc = .ok (.bastore, 1) := dk_of ((dk_bind (dk_u1 (h 0 _ rfl))).trans rfl)
theorem dk_89 {code : ByteArray} {pc : Nat} (h : DkAt code pc [89]) : decode code pc = .ok (.dup, 1) := dk_of ((dk_bind (dk_u1 (h 0 _ rfl))).trans rfl)
theorem dk_90 {code : ByteArray} {pc : Nat} (h : DkAt code pc [90]) : decode code pc = .ok (.dup_x1, 1) := dk_of ((dk_bind (dk_u1 (h 0 _ rfl))).trans rfl)
theorem dk_92 {code : ByteArray} {pc : Nat} (h : DkAt code pc [92]) : decode code pc = .ok (.dup2, 1) := dk_of ((dk_bind (dk_u1 (h 0 _ rfl))).trans rfl)
theorem dk_96 {code : ByteArray} {pc : Nat} (h : DkAt code pc [96]) : decode code pc = .ok (.iadd, 1) := dk_of ((dk_bind (dk_u1 (h 0 _ rfl))).trans rfl)
theorem dk_97 {code : ByteArray} {pc : Nat} (h : DkAt code pc [97]) : decode code pc = .ok (.ladd, 1) := dk_of ((dk_bind (dk_u1 (h 0 _ rfl))).trans rfl)
theorem dk_100 {code : ByteArray} {pc : Nat} (h : DkAt code pc [100]) : decode code pc = .ok (.isub, 1) := dk_of ((dk_bind (dk_u1 (h 0 _ rfl))).trans rfl)
theorem dk_104 {code : ByteArray} {pc : Nat} (h : DkAt code pc [104]) : decode code pc = .ok (.imul, 1) := dk_of ((dk_bind (dk_u1 (h 0 _ rfl))).trans rfl)
theorem dk_105 {code : ByteArray} {pc : Nat} (h : DkAt code pc [105]) : decode code pc = .ok (.lmul, 1) := dk_of ((dk_bind (dk_u1 (h 0 _ rfl))).trans rfl)
theorem dk_108 {code : ByteArray} {pc : Nat} (h : DkAt code pc [108]) : decode code pc = .ok (.idiv, 1) := dk_of ((dk_bind (dk_u1 (h 0 _ rfl))).trans rfl)
theorem dk_112 {code : ByteArray} {pc : Nat} (h : DkAt code pc [112]) : decode code pc = .ok (.irem, 1) := dk_of ((dk_bind (dk_u1 (h 0 _ rfl))).trans rfl)
theorem dk_120 {code : ByteArray} {pc : Nat} (h : DkAt code pc [120]) : decode code pc = .ok (.ishl, 1) := dk_of ((dk_bind (dk_u1 (h 0 _ rfl))).trans rfl)
theorem dk_121 {code : ByteArray} {pc : Nat} (h : DkAt code pc [121]) : decode code pc = .ok (.lshl, 1) := dk_of ((dk_bind (dk_u1 (h 0 _ rfl))).trans rfl)
theorem dk_122 {code : ByteArray} {pc : Nat} (h : DkAt code pc [122]) : decode code pc = .ok (.ishr, 1) := dk_of ((dk_bind (dk_u1 (h 0 _ rfl))).trans rfl)
theorem dk_124 {code : ByteArray} {pc : Nat} (h : DkAt code pc [124]) : decode code pc = .ok (.iushr, 1) := dk_of ((dk_bind (dk_u1 (h 0 _ rfl))).trans rfl)
theorem dk_125 {code : ByteArray} {pc : Nat} (h : DkAt code pc [125]) : decode code pc = .ok (.lushr, 1) := dk_of ((dk_bind (dk_u1 (h 0 _ rfl))).trans rfl)
theorem dk_126 {code : ByteArray} {pc : Nat} (h : DkAt code pc [126]) : decode code pc = .ok (.iand, 1) := dk_of ((dk_bind (dk_u1 (h 0 _ rfl))).trans rfl)
theorem dk_127 {code : ByteArray} {pc : Nat} (h : DkAt code pc [127]) : decode code pc = .ok (.land, 1) := dk_of ((dk_bind (dk_u1 (h 0 _ rfl))).trans rfl)
theorem dk_128 {code : ByteArray} {pc : Nat} (h : DkAt code pc [128]) : decode code pc = .ok (.ior, 1) := dk_of ((dk_bind (dk_u1 (h 0 _ rfl))).trans rfl)
theorem dk_130 {code : ByteArray} {pc : Nat} (h : DkAt code pc [130]) : decode code pc = .ok (.ixor, 1) := dk_of ((dk_bind (dk_u1 (h 0 _ rfl))).trans rfl)
theorem dk_132 {code : ByteArray} {pc : Nat} (a b : UInt8) (h : DkAt code pc [132, a, b]) : decode code pc = .ok (.iinc a.toNat (Reader.signed 8 b.toNat), 3) := dk_of ((dk_bind (dk_u1 (h 0 _ rfl))).trans ((dk_bind (dk_u1 (h 1 _ rfl))).trans ((dk_bind (dk_map (dk_u1 (h 2 _ rfl)))).trans rfl)))
theorem dk_133 {code : ByteArray} {pc : Nat} (h : DkAt code pc [133]) : decode code pc = .ok (.i2l, 1) := dk_of ((dk_bind (dk_u1 (h 0 _ rfl))).trans rfl)
theorem dk_136 {code : ByteArray} {pc : Nat} (h : DkAt code pc [136]) : decode code pc = .ok (.l2i, 1) := dk_of ((dk_bind (dk_u1 (h 0 _ rfl))).trans rfl)
theorem dk_145 {code : ByteArray} {pc : Nat} (h : DkAt code pc [145]) : decode code pc = .ok (.i2b, 1) := dk_of ((dk_bind (dk_u1 (h 0 _ rfl))).trans rfl)
theorem dk_153 {code : ByteArray} {pc : Nat} (a b : UInt8) (h : DkAt code pc [153, a, b]) : decode code pc = .ok (.ifCond .eq (Reader.signed 16 (a.toNat * 256 + b.toNat)), 3) := dk_of ((dk_bind (dk_u1 (h 0 _ rfl))).trans ((dk_bind (dk_map (dk_u2 (h 1 _ rfl) (h 2 _ rfl)))).trans rfl))
theorem dk_154 {code : ByteArray} {pc : Nat} (a b : UInt8) (h : DkAt code pc [154, a, b]) : decode code pc = .ok (.ifCond .ne (Reader.signed 16 (a.toNat * 256 + b.toNat)), 3) := dk_of ((dk_bind (dk_u1 (h 0 _ rfl))).trans ((dk_bind (dk_map (dk_u2 (h 1 _ rfl) (h 2 _ rfl)))).trans rfl))
theorem dk_159 {code : ByteArray} {pc : Nat} (a b : UInt8) (h : DkAt code pc [159, a, b]) : decode code pc = .ok (.if_icmp .eq (Reader.signed 16 (a.toNat * 256 + b.toNat)), 3) := dk_of ((dk_bind (dk_u1 (h 0 _ rfl))).trans ((dk_bind (dk_map (dk_u2 (h 1 _ rfl) (h 2 _ rfl)))).trans rfl))
theorem dk_160 {code : ByteArray} {pc : Nat} (a b : UInt8) (h : DkAt code pc [160, a, b]) : decode code pc = .ok (.if_icmp .ne (Reader.signed 16 (a.toNat * 256 + b.toNat)), 3) := dk_of ((dk_bind (dk_u1 (h 0 _ rfl))).trans ((dk_bind (dk_map (dk_u2 (h 1 _ rfl) (h 2 _ rfl)))).trans rfl))
theorem dk_161 {code : ByteArray} {pc : Nat} (a b : UInt8) (h : DkAt code pc [161, a, b]) : decode code pc = .ok (.if_icmp .lt (Reader.signed 16 (a.toNat * 256 + b.toNat)), 3) := dk_of ((dk_bind (dk_u1 (h 0 _ rfl))).trans ((dk_bind (dk_map (dk_u2 (h 1 _ rfl) (h 2 _ rfl)))).trans rfl))
theorem dk_162 {code : ByteArray} {pc : Nat} (a b : UInt8) (h : DkAt code pc [162, a, b]) : decode code pc = .ok (.if_icmp .ge (Reader.signed 16 (a.toNat * 256 + b.toNat)), 3) := dk_of ((dk_bind (dk_u1 (h 0 _ rfl))).trans ((dk_bind (dk_map (dk_u2 (h 1 _ rfl) (h 2 _ rfl)))).trans rfl))
theorem dk_163 {code : ByteArray} {pc : Nat} (a b : UInt8) (h : DkAt code pc [163, a, b]) : decode code pc = .ok (.if_icmp .gt (Reader.signed 16 (a.toNat * 256 + b.toNat)), 3) := dk_of ((dk_bind (dk_u1 (h 0 _ rfl))).trans ((dk_bind (dk_map (dk_u2 (h 1 _ rfl) (h 2 _ rfl)))).trans rfl))
theorem dk_164 {code : ByteArray} {pc : Nat} (a b : UInt8) (h : DkAt code pc [164, a, b]) : decode code pc = .ok (.if_icmp .le (Reader.signed 16 (a.toNat * 256 + b.toNat)), 3) := dk_of ((dk_bind (dk_u1 (h 0 _ rfl))).trans ((dk_bind (dk_map (dk_u2 (h 1 _ rfl) (h 2 _ rfl)))).trans rfl))
theorem dk_167 {code : ByteArray} {pc : Nat} (a b : UInt8) (h : DkAt code pc [167, a, b]) : decode code pc = .ok (.goto (Reader.signed 16 (a.toNat * 256 + b.toNat)), 3) := dk_of ((dk_bind (dk_u1 (h 0 _ rfl))).trans ((dk_bind (dk_map (dk_u2 (h 1 _ rfl) (h 2 _ rfl)))).trans rfl))
theorem dk_172 {code : ByteArray} {pc : Nat} (h : DkAt code pc [172]) : decode code pc = .ok (.ireturn, 1) := dk_of ((dk_bind (dk_u1 (h 0 _ rfl))).trans rfl)
theorem dk_177 {code : ByteArray} {pc : Nat} (h : DkAt code pc [177]) : decode code pc = .ok (.return_, 1) := dk_of ((dk_bind (dk_u1 (h 0 _ rfl))).trans rfl)
theorem dk_178 {code : ByteArray} {pc : Nat} (a b : UInt8) (h : DkAt code pc [178, a, b]) : decode code pc = .ok (.getstatic (a.toNat * 256 + b.toNat), 3) := dk_of ((dk_bind (dk_u1 (h 0 _ rfl))).trans ((dk_bind (dk_u2 (h 1 _ rfl) (h 2 _ rfl))).trans rfl))
theorem dk_180 {code : ByteArray} {pc : Nat} (a b : UInt8) (h : DkAt code pc [180, a, b]) : decode code pc = .ok (.getfield (a.toNat * 256 + b.toNat), 3) := dk_of ((dk_bind (dk_u1 (h 0 _ rfl))).trans ((dk_bind (dk_u2 (h 1 _ rfl) (h 2 _ rfl))).trans rfl))
theorem dk_181 {code : ByteArray} {pc : Nat} (a b : UInt8) (h : DkAt code pc [181, a, b]) : decode code pc = .ok (.putfield (a.toNat * 256 + b.toNat), 3) := dk_of ((dk_bind (dk_u1 (h 0 _ rfl))).trans ((dk_bind (dk_u2 (h 1 _ rfl) (h 2 _ rfl))).trans rfl))
theorem dk_182 {code : ByteArray} {pc : Nat} (a b : UInt8) (h : DkAt code pc [182, a, b]) : decode code pc = .ok (.invokevirtual (a.toNat * 256 + b.toNat), 3) := dk_of ((dk_bind (dk_u1 (h 0 _ rfl))).trans ((dk_bind (dk_u2 (h 1 _ rfl) (h 2 _ rfl))).trans rfl))
theorem dk_183 {code : ByteArray} {pc : Nat} (a b : UInt8) (h : DkAt code pc [183, a, b]) : decode code pc = .ok (.invokespecial (a.toNat * 256 + b.toNat), 3) := dk_of ((dk_bind (dk_u1 (h 0 _ rfl))).trans ((dk_bind (dk_u2 (h 1 _ rfl) (h 2 _ rfl))).trans rfl))
theorem dk_184 {code : ByteArray} {pc : Nat} (a b : UInt8) (h : DkAt code pc [184, a, b]) : decode code pc = .ok (.invokestatic (a.toNat * 256 + b.toNat), 3) := dk_of ((dk_bind (dk_u1 (h 0 _ rfl))).trans ((dk_bind (dk_u2 (h 1 _ rfl) (h 2 _ rfl))).trans rfl))
theorem dk_187 {code : ByteArray} {pc : Nat} (a b : UInt8) (h : DkAt code pc [187, a, b]) : decode code pc = .ok (.new (a.toNat * 256 + b.toNat), 3) := dk_of ((dk_bind (dk_u1 (h 0 _ rfl))).trans ((dk_bind (dk_u2 (h 1 _ rfl) (h 2 _ rfl))).trans rfl))
theorem dk_188_8 {code : ByteArray} {pc : Nat} (h : DkAt code pc [188, 8]) : decode code pc = .ok (.newarray .byte, 2) := dk_of ((dk_bind (dk_u1 (h 0 _ rfl))).trans ((dk_bind (dk_u1 (h 1 _ rfl))).trans rfl))
theorem dk_188_10 {code : ByteArray} {pc : Nat} (h : DkAt code pc [188, 10]) : decode code pc = .ok (.newarray .int, 2) := dk_of ((dk_bind (dk_u1 (h 0 _ rfl))).trans ((dk_bind (dk_u1 (h 1 _ rfl))).trans rfl))
theorem dk_190 {code : ByteArray} {pc : Nat} (h : DkAt code pc [190]) : decode code pc = .ok (.arraylength, 1) := dk_of ((dk_bind (dk_u1 (h 0 _ rfl))).trans rfl)
end
section
/-! java/lang/Object -/
set_option maxRecDepth 100000
def RJ1 : String := "java/lang/Object"
abbrev cJ1_init : ByteArray := object_method_1_code
def yJ1_init : MethodName := ⟨RJ1, "<init>", "()V"⟩
theorem dJ1_init_0 : decode cJ1_init 0 = .ok (.return_, 1) := by decide +kernel
theorem q29 : (Jvm.Cond.instanceMethod ({ cls := "java/lang/Object", name := "<init>", desc := "()V" } : Jvm.MethodName)) ∈ lw_all := lw_g (lw_at lw_m1 15 rfl) rfl
theorem q30 : (Jvm.Cond.code ({ cls := "java/lang/Object", name := "<init>", desc := "()V" } : Jvm.MethodName) object_method_1_code (1 : Nat) (Option.none : Option Jvm.ClassFile.FieldType)) ∈ lw_all := lw_g (lw_at lw_m1 16 rfl) rfl
/-! java/lang/Math -/
set_option maxRecDepth 100000
def RJ0 : String := "java/lang/Math"
abbrev cJ0_max : ByteArray := prog_11_method_65_code
def yJ0_max : MethodName := ⟨RJ0, "max", "(II)I"⟩
def dkwJ0_max_0 : List UInt8 := [26, 27, 161, 0, 7, 26, 167, 0, 4, 27, 172]
abbrev dktJ0_max_0 : List UInt8 := dkwJ0_max_0 ++ []
theorem dksJ0_max_0 : cJ0_max.data.toList.drop 0 = dktJ0_max_0 := by decide +kernel
theorem dJ0_max_0 : decode cJ0_max 0 = .ok (.iload_n 0, 1) := dk_26 (dk_at dksJ0_max_0 0 rfl rfl)
theorem dJ0_max_1 : decode cJ0_max 1 = .ok (.iload_n 1, 1) := dk_27 (dk_at dksJ0_max_0 1 rfl rfl)
theorem dJ0_max_2 : decode cJ0_max 2 = .ok (.if_icmp .lt 7, 3) := dk_161 0 7 (dk_at dksJ0_max_0 2 rfl rfl)
theorem dJ0_max_5 : decode cJ0_max 5 = .ok (.iload_n 0, 1) := dk_26 (dk_at dksJ0_max_0 5 rfl rfl)
theorem dJ0_max_6 : decode cJ0_max 6 = .ok (.goto 4, 3) := dk_167 0 4 (dk_at dksJ0_max_0 6 rfl rfl)
theorem dJ0_max_9 : decode cJ0_max 9 = .ok (.iload_n 1, 1) := dk_27 (dk_at dksJ0_max_0 9 rfl rfl)
theorem dJ0_max_10 : decode cJ0_max 10 = .ok (.ireturn, 1) := dk_172 (dk_at dksJ0_max_0 10 rfl rfl)
theorem q21 : (Jvm.Cond.initialized "java/lang/Math") ∈ lw_all := lw_g (lw_at lw_m1 7 rfl) rfl
theorem q143 : (Jvm.Cond.static ({ cls := "java/lang/Math", name := "max", desc := "(II)I" } : Jvm.MethodName)) ∈ lw_all := lw_g (lw_at lw_m1 129 rfl) rfl
theorem q144 : (Jvm.Cond.code ({ cls := "java/lang/Math", name := "max", desc := "(II)I" } : Jvm.MethodName) prog_11_method_65_code (2 : Nat) (Option.some Jvm.ClassFile.FieldType.int)) ∈ lw_all := lw_g (lw_at lw_m1 130 rfl) rfl
/-! SmDigestDesk -/
set_option maxRecDepth 100000
def RX0 : String := "SmDigestDesk"
def TX0 : u_T := fun k => match k with
  | 0 => ("SmDigestDesk", "run", "LDigest;", false)
  | 1 => ("SmDigestDesk", "out", "[B", true)
  | 2 => ("SmDigestDesk", "fed", "I", false)
  | 3 => ("SmDigestDesk", "text", "[B", true)
  | _ => ("SmDigestDesk", "size", "I", false)
def tyX0 : Nat → FieldType := fun k => match k with
  | 0 => .object "Digest"
  | 1 => .array .byte
  | 2 => .int
  | 3 => .array .byte
  | _ => .int
abbrev wsX00 : List Cond := u_ws RX0 TX0 5
theorem nmX0 : ∀ a, a < 5 → ∀ b, b < 5 → a ≠ b → (TX0 a).2.1 ≠ (TX0 b).2.1 := by decide +kernel
theorem tyX0_ok : ∀ k, k < 5 → parseFieldDescriptor (TX0 k).2.2.1 = some (tyX0 k) := by decide +kernel
abbrev cX0_init : ByteArray := prog_7_method_1_code
def yX0_init : MethodName := ⟨RX0, "<init>", "()V"⟩
def dkwX0_init_1 : List UInt8 := [17, 4, 0, 188, 8, 181, 0, 20, 177]
abbrev dktX0_init_1 : List UInt8 := dkwX0_init_1 ++ []
def dkwX0_init_0 : List UInt8 := [42, 183, 0, 1, 42, 187, 0, 7, 89, 183, 0, 9, 181, 0, 10, 42, 16, 64, 188, 8, 181, 0, 16, 42]
abbrev dktX0_init_0 : List UInt8 := dkwX0_init_0 ++ dktX0_init_1
theorem dksX0_init_0 : cX0_init.data.toList.drop 0 = dktX0_init_0 := by decide +kernel
theorem dksX0_init_1 : cX0_init.data.toList.drop 24 = dktX0_init_1 := dk_seg dksX0_init_0 24 rfl rfl
theorem dX0_init_0 : decode cX0_init 0 = .ok (.aload_n 0, 1) := dk_42 (dk_at dksX0_init_0 0 rfl rfl)
theorem dX0_init_1 : decode cX0_init 1 = .ok (.invokespecial 1, 3) := dk_183 0 1 (dk_at dksX0_init_0 1 rfl rfl)
theorem dX0_init_4 : decode cX0_init 4 = .ok (.aload_n 0, 1) := dk_42 (dk_at dksX0_init_0 4 rfl rfl)
theorem dX0_init_5 : decode cX0_init 5 = .ok (.new 7, 3) := dk_187 0 7 (dk_at dksX0_init_0 5 rfl rfl)
theorem dX0_init_8 : decode cX0_init 8 = .ok (.dup, 1) := dk_89 (dk_at dksX0_init_0 8 rfl rfl)
theorem dX0_init_9 : decode cX0_init 9 = .ok (.invokespecial 9, 3) := dk_183 0 9 (dk_at dksX0_init_0 9 rfl rfl)
theorem dX0_init_12 : decode cX0_init 12 = .ok (.putfield 10, 3) := dk_181 0 10 (dk_at dksX0_init_0 12 rfl rfl)
theorem dX0_init_15 : decode cX0_init 15 = .ok (.aload_n 0, 1) := dk_42 (dk_at dksX0_init_0 15 rfl rfl)
theorem dX0_init_16 : decode cX0_init 16 = .ok (.bipush 64, 2) := dk_16 64 (dk_at dksX0_init_0 16 rfl rfl)
theorem dX0_init_18 : decode cX0_init 18 = .ok (.newarray .byte, 2) := dk_188_8 (dk_at dksX0_init_0 18 rfl rfl)
theorem dX0_init_20 : decode cX0_init 20 = .ok (.putfield 16, 3) := dk_181 0 16 (dk_at dksX0_init_0 20 rfl rfl)
theorem dX0_init_23 : decode cX0_init 23 = .ok (.aload_n 0, 1) := dk_42 (dk_at dksX0_init_0 23 rfl rfl)
theorem dX0_init_24 : decode cX0_init 24 = .ok (.sipush 1024, 3) := dk_17 4 0 (dk_at dksX0_init_1 0 rfl rfl)
theorem dX0_init_27 : decode cX0_init 27 = .ok (.newarray .byte, 2) := dk_188_8 (dk_at dksX0_init_1 3 rfl rfl)
theorem dX0_init_29 : decode cX0_init 29 = .ok (.putfield 20, 3) := dk_181 0 20 (dk_at dksX0_init_1 5 rfl rfl)
theorem dX0_init_32 : decode cX0_init 32 = .ok (.return_, 1) := dk_177 (dk_at dksX0_init_1 8 rfl rfl)
abbrev cX0_put : ByteArray := prog_7_method_2_code
def yX0_put : MethodName := ⟨RX0, "put", "(IIII)Z"⟩
def dkwX0_put_3 : List UInt8 := [181, 0, 23, 4, 172]
abbrev dktX0_put_3 : List UInt8 := dkwX0_put_3 ++ []
def dkwX0_put_2 : List UInt8 := [182, 0, 27, 42, 42, 180, 0, 23, 16, 12, 96, 21, 4, 182, 0, 27, 42, 89, 180, 0, 23, 16, 16, 96]
abbrev dktX0_put_2 : List UInt8 := dkwX0_put_2 ++ dktX0_put_3
def dkwX0_put_1 : List UInt8 := [182, 0, 27, 42, 42, 180, 0, 23, 7, 96, 28, 182, 0, 27, 42, 42, 180, 0, 23, 16, 8, 96, 29]
abbrev dktX0_put_1 : List UInt8 := dkwX0_put_1 ++ dktX0_put_2
def dkwX0_put_0 : List UInt8 := [42, 180, 0, 23, 42, 180, 0, 20, 190, 16, 16, 100, 164, 0, 5, 3, 172, 42, 42, 180, 0, 23, 27]
abbrev dktX0_put_0 : List UInt8 := dkwX0_put_0 ++ dktX0_put_1
theorem dksX0_put_0 : cX0_put.data.toList.drop 0 = dktX0_put_0 := by decide +kernel
theorem dksX0_put_1 : cX0_put.data.toList.drop 23 = dktX0_put_1 := dk_seg dksX0_put_0 23 rfl rfl
theorem dksX0_put_2 : cX0_put.data.toList.drop 46 = dktX0_put_2 := dk_seg dksX0_put_1 23 rfl rfl
theorem dksX0_put_3 : cX0_put.data.toList.drop 70 = dktX0_put_3 := dk_seg dksX0_put_2 24 rfl rfl
theorem dX0_put_0 : decode cX0_put 0 = .ok (.aload_n 0, 1) := dk_42 (dk_at dksX0_put_0 0 rfl rfl)
theorem dX0_put_1 : decode cX0_put 1 = .ok (.getfield 23, 3) := dk_180 0 23 (dk_at dksX0_put_0 1 rfl rfl)
theorem dX0_put_4 : decode cX0_put 4 = .ok (.aload_n 0, 1) := dk_42 (dk_at dksX0_put_0 4 rfl rfl)
theorem dX0_put_5 : decode cX0_put 5 = .ok (.getfield 20, 3) := dk_180 0 20 (dk_at dksX0_put_0 5 rfl rfl)
theorem dX0_put_8 : decode cX0_put 8 = .ok (.arraylength, 1) := dk_190 (dk_at dksX0_put_0 8 rfl rfl)
theorem dX0_put_9 : decode cX0_put 9 = .ok (.bipush 16, 2) := dk_16 16 (dk_at dksX0_put_0 9 rfl rfl)
theorem dX0_put_11 : decode cX0_put 11 = .ok (.isub, 1) := dk_100 (dk_at dksX0_put_0 11 rfl rfl)
theorem dX0_put_12 : decode cX0_put 12 = .ok (.if_icmp .le 5, 3) := dk_164 0 5 (dk_at dksX0_put_0 12 rfl rfl)
theorem dX0_put_15 : decode cX0_put 15 = .ok (.iconst 0, 1) := dk_3 (dk_at dksX0_put_0 15 rfl rfl)
theorem dX0_put_16 : decode cX0_put 16 = .ok (.ireturn, 1) := dk_172 (dk_at dksX0_put_0 16 rfl rfl)
theorem dX0_put_17 : decode cX0_put 17 = .ok (.aload_n 0, 1) := dk_42 (dk_at dksX0_put_0 17 rfl rfl)
theorem dX0_put_18 : decode cX0_put 18 = .ok (.aload_n 0, 1) := dk_42 (dk_at dksX0_put_0 18 rfl rfl)
theorem dX0_put_19 : decode cX0_put 19 = .ok (.getfield 23, 3) := dk_180 0 23 (dk_at dksX0_put_0 19 rfl rfl)
theorem dX0_put_22 : decode cX0_put 22 = .ok (.iload_n 1, 1) := dk_27 (dk_at dksX0_put_0 22 rfl rfl)
theorem dX0_put_23 : decode cX0_put 23 = .ok (.invokevirtual 27, 3) := dk_182 0 27 (dk_at dksX0_put_1 0 rfl rfl)
theorem dX0_put_26 : decode cX0_put 26 = .ok (.aload_n 0, 1) := dk_42 (dk_at dksX0_put_1 3 rfl rfl)
theorem dX0_put_27 : decode cX0_put 27 = .ok (.aload_n 0, 1) := dk_42 (dk_at dksX0_put_1 4 rfl rfl)
theorem dX0_put_28 : decode cX0_put 28 = .ok (.getfield 23, 3) := dk_180 0 23 (dk_at dksX0_put_1 5 rfl rfl)
theorem dX0_put_31 : decode cX0_put 31 = .ok (.iconst 4, 1) := dk_7 (dk_at dksX0_put_1 8 rfl rfl)
theorem dX0_put_32 : decode cX0_put 32 = .ok (.iadd, 1) := dk_96 (dk_at dksX0_put_1 9 rfl rfl)
theorem dX0_put_33 : decode cX0_put 33 = .ok (.iload_n 2, 1) := dk_28 (dk_at dksX0_put_1 10 rfl rfl)
theorem dX0_put_34 : decode cX0_put 34 = .ok (.invokevirtual 27, 3) := dk_182 0 27 (dk_at dksX0_put_1 11 rfl rfl)
theorem dX0_put_37 : decode cX0_put 37 = .ok (.aload_n 0, 1) := dk_42 (dk_at dksX0_put_1 14 rfl rfl)
theorem dX0_put_38 : decode cX0_put 38 = .ok (.aload_n 0, 1) := dk_42 (dk_at dksX0_put_1 15 rfl rfl)
theorem dX0_put_39 : decode cX0_put 39 = .ok (.getfield 23, 3) := dk_180 0 23 (dk_at dksX0_put_1 16 rfl rfl)
theorem dX0_put_42 : decode cX0_put 42 = .ok (.bipush 8, 2) := dk_16 8 (dk_at dksX0_put_1 19 rfl rfl)
theorem dX0_put_44 : decode cX0_put 44 = .ok (.iadd, 1) := dk_96 (dk_at dksX0_put_1 21 rfl rfl)
theorem dX0_put_45 : decode cX0_put 45 = .ok (.iload_n 3, 1) := dk_29 (dk_at dksX0_put_1 22 rfl rfl)
theorem dX0_put_46 : decode cX0_put 46 = .ok (.invokevirtual 27, 3) := dk_182 0 27 (dk_at dksX0_put_2 0 rfl rfl)
theorem dX0_put_49 : decode cX0_put 49 = .ok (.aload_n 0, 1) := dk_42 (dk_at dksX0_put_2 3 rfl rfl)
theorem dX0_put_50 : decode cX0_put 50 = .ok (.aload_n 0, 1) := dk_42 (dk_at dksX0_put_2 4 rfl rfl)
theorem dX0_put_51 : decode cX0_put 51 = .ok (.getfield 23, 3) := dk_180 0 23 (dk_at dksX0_put_2 5 rfl rfl)
theorem dX0_put_54 : decode cX0_put 54 = .ok (.bipush 12, 2) := dk_16 12 (dk_at dksX0_put_2 8 rfl rfl)
theorem dX0_put_56 : decode cX0_put 56 = .ok (.iadd, 1) := dk_96 (dk_at dksX0_put_2 10 rfl rfl)
theorem dX0_put_57 : decode cX0_put 57 = .ok (.iload 4, 2) := dk_21 4 (dk_at dksX0_put_2 11 rfl rfl)
theorem dX0_put_59 : decode cX0_put 59 = .ok (.invokevirtual 27, 3) := dk_182 0 27 (dk_at dksX0_put_2 13 rfl rfl)
theorem dX0_put_62 : decode cX0_put 62 = .ok (.aload_n 0, 1) := dk_42 (dk_at dksX0_put_2 16 rfl rfl)
theorem dX0_put_63 : decode cX0_put 63 = .ok (.dup, 1) := dk_89 (dk_at dksX0_put_2 17 rfl rfl)
theorem dX0_put_64 : decode cX0_put 64 = .ok (.getfield 23, 3) := dk_180 0 23 (dk_at dksX0_put_2 18 rfl rfl)
theorem dX0_put_67 : decode cX0_put 67 = .ok (.bipush 16, 2) := dk_16 16 (dk_at dksX0_put_2 21 rfl rfl)
theorem dX0_put_69 : decode cX0_put 69 = .ok (.iadd, 1) := dk_96 (dk_at dksX0_put_2 23 rfl rfl)
theorem dX0_put_70 : decode cX0_put 70 = .ok (.putfield 23, 3) := dk_181 0 23 (dk_at dksX0_put_3 0 rfl rfl)
theorem dX0_put_73 : decode cX0_put 73 = .ok (.iconst 1, 1) := dk_4 (dk_at dksX0_put_3 3 rfl rfl)
theorem dX0_put_74 : decode cX0_put 74 = .ok (.ireturn, 1) := dk_172 (dk_at dksX0_put_3 4 rfl rfl)
abbrev cX0_word : ByteArray := prog_7_method_3_code
def yX0_word : MethodName := ⟨RX0, "word", "(II)V"⟩
def dkwX0_word_1 : List UInt8 := [42, 180, 0, 20, 27, 5, 96, 28, 16, 8, 122, 145, 84, 42, 180, 0, 20, 27, 6, 96, 28, 145, 84, 177]
abbrev dktX0_word_1 : List UInt8 := dkwX0_word_1 ++ []
def dkwX0_word_0 : List UInt8 := [42, 180, 0, 20, 27, 28, 16, 24, 122, 145, 84, 42, 180, 0, 20, 27, 4, 96, 28, 16, 16, 122, 145, 84]
abbrev dktX0_word_0 : List UInt8 := dkwX0_word_0 ++ dktX0_word_1
theorem dksX0_word_0 : cX0_word.data.toList.drop 0 = dktX0_word_0 := by decide +kernel
theorem dksX0_word_1 : cX0_word.data.toList.drop 24 = dktX0_word_1 := dk_seg dksX0_word_0 24 rfl rfl
theorem dX0_word_0 : decode cX0_word 0 = .ok (.aload_n 0, 1) := dk_42 (dk_at dksX0_word_0 0 rfl rfl)
theorem dX0_word_1 : decode cX0_word 1 = .ok (.getfield 20, 3) := dk_180 0 20 (dk_at dksX0_word_0 1 rfl rfl)
theorem dX0_word_4 : decode cX0_word 4 = .ok (.iload_n 1, 1) := dk_27 (dk_at dksX0_word_0 4 rfl rfl)
theorem dX0_word_5 : decode cX0_word 5 = .ok (.iload_n 2, 1) := dk_28 (dk_at dksX0_word_0 5 rfl rfl)
theorem dX0_word_6 : decode cX0_word 6 = .ok (.bipush 24, 2) := dk_16 24 (dk_at dksX0_word_0 6 rfl rfl)
theorem dX0_word_8 : decode cX0_word 8 = .ok (.ishr, 1) := dk_122 (dk_at dksX0_word_0 8 rfl rfl)
theorem dX0_word_9 : decode cX0_word 9 = .ok (.i2b, 1) := dk_145 (dk_at dksX0_word_0 9 rfl rfl)
theorem dX0_word_10 : decode cX0_word 10 = .ok (.bastore, 1) := dk_84 (dk_at dksX0_word_0 10 rfl rfl)
theorem dX0_word_11 : decode cX0_word 11 = .ok (.aload_n 0, 1) := dk_42 (dk_at dksX0_word_0 11 rfl rfl)
theorem dX0_word_12 : decode cX0_word 12 = .ok (.getfield 20, 3) := dk_180 0 20 (dk_at dksX0_word_0 12 rfl rfl)
theorem dX0_word_15 : decode cX0_word 15 = .ok (.iload_n 1, 1) := dk_27 (dk_at dksX0_word_0 15 rfl rfl)
theorem dX0_word_16 : decode cX0_word 16 = .ok (.iconst 1, 1) := dk_4 (dk_at dksX0_word_0 16 rfl rfl)
theorem dX0_word_17 : decode cX0_word 17 = .ok (.iadd, 1) := dk_96 (dk_at dksX0_word_0 17 rfl rfl)
theorem dX0_word_18 : decode cX0_word 18 = .ok (.iload_n 2, 1) := dk_28 (dk_at dksX0_word_0 18 rfl rfl)
theorem dX0_word_19 : decode cX0_word 19 = .ok (.bipush 16, 2) := dk_16 16 (dk_at dksX0_word_0 19 rfl rfl)
theorem dX0_word_21 : decode cX0_word 21 = .ok (.ishr, 1) := dk_122 (dk_at dksX0_word_0 21 rfl rfl)
theorem dX0_word_22 : decode cX0_word 22 = .ok (.i2b, 1) := dk_145 (dk_at dksX0_word_0 22 rfl rfl)
theorem dX0_word_23 : decode cX0_word 23 = .ok (.bastore, 1) := dk_84 (dk_at dksX0_word_0 23 rfl rfl)
theorem dX0_word_24 : decode cX0_word 24 = .ok (.aload_n 0, 1) := dk_42 (dk_at dksX0_word_1 0 rfl rfl)
theorem dX0_word_25 : decode cX0_word 25 = .ok (.getfield 20, 3) := dk_180 0 20 (dk_at dksX0_word_1 1 rfl rfl)
theorem dX0_word_28 : decode cX0_word 28 = .ok (.iload_n 1, 1) := dk_27 (dk_at dksX0_word_1 4 rfl rfl)
theorem dX0_word_29 : decode cX0_word 29 = .ok (.iconst 2, 1) := dk_5 (dk_at dksX0_word_1 5 rfl rfl)
theorem dX0_word_30 : decode cX0_word 30 = .ok (.iadd, 1) := dk_96 (dk_at dksX0_word_1 6 rfl rfl)
theorem dX0_word_31 : decode cX0_word 31 = .ok (.iload_n 2, 1) := dk_28 (dk_at dksX0_word_1 7 rfl rfl)
theorem dX0_word_32 : decode cX0_word 32 = .ok (.bipush 8, 2) := dk_16 8 (dk_at dksX0_word_1 8 rfl rfl)
theorem dX0_word_34 : decode cX0_word 34 = .ok (.ishr, 1) := dk_122 (dk_at dksX0_word_1 10 rfl rfl)
theorem dX0_word_35 : decode cX0_word 35 = .ok (.i2b, 1) := dk_145 (dk_at dksX0_word_1 11 rfl rfl)
theorem dX0_word_36 : decode cX0_word 36 = .ok (.bastore, 1) := dk_84 (dk_at dksX0_word_1 12 rfl rfl)
theorem dX0_word_37 : decode cX0_word 37 = .ok (.aload_n 0, 1) := dk_42 (dk_at dksX0_word_1 13 rfl rfl)
theorem dX0_word_38 : decode cX0_word 38 = .ok (.getfield 20, 3) := dk_180 0 20 (dk_at dksX0_word_1 14 rfl rfl)
theorem dX0_word_41 : decode cX0_word 41 = .ok (.iload_n 1, 1) := dk_27 (dk_at dksX0_word_1 17 rfl rfl)
theorem dX0_word_42 : decode cX0_word 42 = .ok (.iconst 3, 1) := dk_6 (dk_at dksX0_word_1 18 rfl rfl)
theorem dX0_word_43 : decode cX0_word 43 = .ok (.iadd, 1) := dk_96 (dk_at dksX0_word_1 19 rfl rfl)
theorem dX0_word_44 : decode cX0_word 44 = .ok (.iload_n 2, 1) := dk_28 (dk_at dksX0_word_1 20 rfl rfl)
theorem dX0_word_45 : decode cX0_word 45 = .ok (.i2b, 1) := dk_145 (dk_at dksX0_word_1 21 rfl rfl)
theorem dX0_word_46 : decode cX0_word 46 = .ok (.bastore, 1) := dk_84 (dk_at dksX0_word_1 22 rfl rfl)
theorem dX0_word_47 : decode cX0_word 47 = .ok (.return_, 1) := dk_177 (dk_at dksX0_word_1 23 rfl rfl)
abbrev cX0_trim : ByteArray := prog_7_method_4_code
def yX0_trim : MethodName := ⟨RX0, "trim", "(I)V"⟩
def dkwX0_trim_0 : List UInt8 := [42, 42, 27, 182, 0, 31, 181, 0, 23, 177]
abbrev dktX0_trim_0 : List UInt8 := dkwX0_trim_0 ++ []
theorem dksX0_trim_0 : cX0_trim.data.toList.drop 0 = dktX0_trim_0 := by decide +kernel
theorem dX0_trim_0 : decode cX0_trim 0 = .ok (.aload_n 0, 1) := dk_42 (dk_at dksX0_trim_0 0 rfl rfl)
theorem dX0_trim_1 : decode cX0_trim 1 = .ok (.aload_n 0, 1) := dk_42 (dk_at dksX0_trim_0 1 rfl rfl)
theorem dX0_trim_2 : decode cX0_trim 2 = .ok (.iload_n 1, 1) := dk_27 (dk_at dksX0_trim_0 2 rfl rfl)
theorem dX0_trim_3 : decode cX0_trim 3 = .ok (.invokevirtual 31, 3) := dk_182 0 31 (dk_at dksX0_trim_0 3 rfl rfl)
theorem dX0_trim_6 : decode cX0_trim 6 = .ok (.putfield 23, 3) := dk_181 0 23 (dk_at dksX0_trim_0 6 rfl rfl)
theorem dX0_trim_9 : decode cX0_trim 9 = .ok (.return_, 1) := dk_177 (dk_at dksX0_trim_0 9 rfl rfl)
abbrev cX0_from : ByteArray := prog_7_method_5_code
def yX0_from : MethodName := ⟨RX0, "from", "(I)I"⟩
def dkwX0_from_0 : List UInt8 := [27, 18, 35, 126, 42, 180, 0, 23, 4, 96, 112, 172]
abbrev dktX0_from_0 : List UInt8 := dkwX0_from_0 ++ []
theorem dksX0_from_0 : cX0_from.data.toList.drop 0 = dktX0_from_0 := by decide +kernel
theorem dX0_from_0 : decode cX0_from 0 = .ok (.iload_n 1, 1) := dk_27 (dk_at dksX0_from_0 0 rfl rfl)
theorem dX0_from_1 : decode cX0_from 1 = .ok (.ldc 35, 2) := dk_18 35 (dk_at dksX0_from_0 1 rfl rfl)
theorem dX0_from_3 : decode cX0_from 3 = .ok (.iand, 1) := dk_126 (dk_at dksX0_from_0 3 rfl rfl)
theorem dX0_from_4 : decode cX0_from 4 = .ok (.aload_n 0, 1) := dk_42 (dk_at dksX0_from_0 4 rfl rfl)
theorem dX0_from_5 : decode cX0_from 5 = .ok (.getfield 23, 3) := dk_180 0 23 (dk_at dksX0_from_0 5 rfl rfl)
theorem dX0_from_8 : decode cX0_from 8 = .ok (.iconst 1, 1) := dk_4 (dk_at dksX0_from_0 8 rfl rfl)
theorem dX0_from_9 : decode cX0_from 9 = .ok (.iadd, 1) := dk_96 (dk_at dksX0_from_0 9 rfl rfl)
theorem dX0_from_10 : decode cX0_from 10 = .ok (.irem, 1) := dk_112 (dk_at dksX0_from_0 10 rfl rfl)
theorem dX0_from_11 : decode cX0_from 11 = .ok (.ireturn, 1) := dk_172 (dk_at dksX0_from_0 11 rfl rfl)
abbrev cX0_begin : ByteArray := prog_7_method_7_code
def yX0_begin : MethodName := ⟨RX0, "begin", "(I)V"⟩
def dkwX0_begin_0 : List UInt8 := [42, 187, 0, 7, 89, 183, 0, 9, 181, 0, 10, 42, 3, 181, 0, 36, 177]
abbrev dktX0_begin_0 : List UInt8 := dkwX0_begin_0 ++ []
theorem dksX0_begin_0 : cX0_begin.data.toList.drop 0 = dktX0_begin_0 := by decide +kernel
theorem dX0_begin_0 : decode cX0_begin 0 = .ok (.aload_n 0, 1) := dk_42 (dk_at dksX0_begin_0 0 rfl rfl)
theorem dX0_begin_1 : decode cX0_begin 1 = .ok (.new 7, 3) := dk_187 0 7 (dk_at dksX0_begin_0 1 rfl rfl)
theorem dX0_begin_4 : decode cX0_begin 4 = .ok (.dup, 1) := dk_89 (dk_at dksX0_begin_0 4 rfl rfl)
theorem dX0_begin_5 : decode cX0_begin 5 = .ok (.invokespecial 9, 3) := dk_183 0 9 (dk_at dksX0_begin_0 5 rfl rfl)
theorem dX0_begin_8 : decode cX0_begin 8 = .ok (.putfield 10, 3) := dk_181 0 10 (dk_at dksX0_begin_0 8 rfl rfl)
theorem dX0_begin_11 : decode cX0_begin 11 = .ok (.aload_n 0, 1) := dk_42 (dk_at dksX0_begin_0 11 rfl rfl)
theorem dX0_begin_12 : decode cX0_begin 12 = .ok (.iconst 0, 1) := dk_3 (dk_at dksX0_begin_0 12 rfl rfl)
theorem dX0_begin_13 : decode cX0_begin 13 = .ok (.putfield 36, 3) := dk_181 0 36 (dk_at dksX0_begin_0 13 rfl rfl)
theorem dX0_begin_16 : decode cX0_begin 16 = .ok (.return_, 1) := dk_177 (dk_at dksX0_begin_0 16 rfl rfl)
abbrev cX0_feed : ByteArray := prog_7_method_8_code
def yX0_feed : MethodName := ⟨RX0, "feed", "(II)Z"⟩
def dkwX0_feed_2 : List UInt8 := [29, 21, 4, 185, 0, 43, 4, 0, 4, 172]
abbrev dktX0_feed_2 : List UInt8 := dkwX0_feed_2 ++ []
def dkwX0_feed_1 : List UInt8 := [164, 0, 5, 3, 172, 42, 89, 180, 0, 36, 21, 4, 96, 181, 0, 36, 42, 180, 0, 10, 42, 180, 0, 20]
abbrev dktX0_feed_1 : List UInt8 := dkwX0_feed_1 ++ dktX0_feed_2
def dkwX0_feed_0 : List UInt8 := [42, 27, 182, 0, 31, 62, 42, 29, 28, 182, 0, 39, 54, 4, 42, 180, 0, 36, 21, 4, 96, 17, 64, 0]
abbrev dktX0_feed_0 : List UInt8 := dkwX0_feed_0 ++ dktX0_feed_1
theorem dksX0_feed_0 : cX0_feed.data.toList.drop 0 = dktX0_feed_0 := by decide +kernel
theorem dksX0_feed_1 : cX0_feed.data.toList.drop 24 = dktX0_feed_1 := dk_seg dksX0_feed_0 24 rfl rfl
theorem dksX0_feed_2 : cX0_feed.data.toList.drop 48 = dktX0_feed_2 := dk_seg dksX0_feed_1 24 rfl rfl
theorem dX0_feed_0 : decode cX0_feed 0 = .ok (.aload_n 0, 1) := dk_42 (dk_at dksX0_feed_0 0 rfl rfl)
theorem dX0_feed_1 : decode cX0_feed 1 = .ok (.iload_n 1, 1) := dk_27 (dk_at dksX0_feed_0 1 rfl rfl)
theorem dX0_feed_2 : decode cX0_feed 2 = .ok (.invokevirtual 31, 3) := dk_182 0 31 (dk_at dksX0_feed_0 2 rfl rfl)
theorem dX0_feed_5 : decode cX0_feed 5 = .ok (.istore_n 3, 1) := dk_62 (dk_at dksX0_feed_0 5 rfl rfl)
theorem dX0_feed_6 : decode cX0_feed 6 = .ok (.aload_n 0, 1) := dk_42 (dk_at dksX0_feed_0 6 rfl rfl)
theorem dX0_feed_7 : decode cX0_feed 7 = .ok (.iload_n 3, 1) := dk_29 (dk_at dksX0_feed_0 7 rfl rfl)
theorem dX0_feed_8 : decode cX0_feed 8 = .ok (.iload_n 2, 1) := dk_28 (dk_at dksX0_feed_0 8 rfl rfl)
theorem dX0_feed_9 : decode cX0_feed 9 = .ok (.invokevirtual 39, 3) := dk_182 0 39 (dk_at dksX0_feed_0 9 rfl rfl)
theorem dX0_feed_12 : decode cX0_feed 12 = .ok (.istore 4, 2) := dk_54 4 (dk_at dksX0_feed_0 12 rfl rfl)
theorem dX0_feed_14 : decode cX0_feed 14 = .ok (.aload_n 0, 1) := dk_42 (dk_at dksX0_feed_0 14 rfl rfl)
theorem dX0_feed_15 : decode cX0_feed 15 = .ok (.getfield 36, 3) := dk_180 0 36 (dk_at dksX0_feed_0 15 rfl rfl)
theorem dX0_feed_18 : decode cX0_feed 18 = .ok (.iload 4, 2) := dk_21 4 (dk_at dksX0_feed_0 18 rfl rfl)
theorem dX0_feed_20 : decode cX0_feed 20 = .ok (.iadd, 1) := dk_96 (dk_at dksX0_feed_0 20 rfl rfl)
theorem dX0_feed_21 : decode cX0_feed 21 = .ok (.sipush 16384, 3) := dk_17 64 0 (dk_at dksX0_feed_0 21 rfl rfl)
theorem dX0_feed_24 : decode cX0_feed 24 = .ok (.if_icmp .le 5, 3) := dk_164 0 5 (dk_at dksX0_feed_1 0 rfl rfl)
theorem dX0_feed_27 : decode cX0_feed 27 = .ok (.iconst 0, 1) := dk_3 (dk_at dksX0_feed_1 3 rfl rfl)
theorem dX0_feed_28 : decode cX0_feed 28 = .ok (.ireturn, 1) := dk_172 (dk_at dksX0_feed_1 4 rfl rfl)
theorem dX0_feed_29 : decode cX0_feed 29 = .ok (.aload_n 0, 1) := dk_42 (dk_at dksX0_feed_1 5 rfl rfl)
theorem dX0_feed_30 : decode cX0_feed 30 = .ok (.dup, 1) := dk_89 (dk_at dksX0_feed_1 6 rfl rfl)
theorem dX0_feed_31 : decode cX0_feed 31 = .ok (.getfield 36, 3) := dk_180 0 36 (dk_at dksX0_feed_1 7 rfl rfl)
theorem dX0_feed_34 : decode cX0_feed 34 = .ok (.iload 4, 2) := dk_21 4 (dk_at dksX0_feed_1 10 rfl rfl)
theorem dX0_feed_36 : decode cX0_feed 36 = .ok (.iadd, 1) := dk_96 (dk_at dksX0_feed_1 12 rfl rfl)
theorem dX0_feed_37 : decode cX0_feed 37 = .ok (.putfield 36, 3) := dk_181 0 36 (dk_at dksX0_feed_1 13 rfl rfl)
theorem dX0_feed_40 : decode cX0_feed 40 = .ok (.aload_n 0, 1) := dk_42 (dk_at dksX0_feed_1 16 rfl rfl)
theorem dX0_feed_41 : decode cX0_feed 41 = .ok (.getfield 10, 3) := dk_180 0 10 (dk_at dksX0_feed_1 17 rfl rfl)
theorem dX0_feed_44 : decode cX0_feed 44 = .ok (.aload_n 0, 1) := dk_42 (dk_at dksX0_feed_1 20 rfl rfl)
theorem dX0_feed_45 : decode cX0_feed 45 = .ok (.getfield 20, 3) := dk_180 0 20 (dk_at dksX0_feed_1 21 rfl rfl)
theorem dX0_feed_48 : decode cX0_feed 48 = .ok (.iload_n 3, 1) := dk_29 (dk_at dksX0_feed_2 0 rfl rfl)
theorem dX0_feed_49 : decode cX0_feed 49 = .ok (.iload 4, 2) := dk_21 4 (dk_at dksX0_feed_2 1 rfl rfl)
theorem dX0_feed_51 : decode cX0_feed 51 = .ok (.invokeinterface 43 4, 5) := by decide +kernel
theorem dX0_feed_56 : decode cX0_feed 56 = .ok (.iconst 1, 1) := dk_4 (dk_at dksX0_feed_2 8 rfl rfl)
theorem dX0_feed_57 : decode cX0_feed 57 = .ok (.ireturn, 1) := dk_172 (dk_at dksX0_feed_2 9 rfl rfl)
abbrev cX0_count : ByteArray := prog_7_method_6_code
def yX0_count : MethodName := ⟨RX0, "count", "(II)I"⟩
def dkwX0_count_0 : List UInt8 := [28, 18, 35, 126, 42, 180, 0, 23, 27, 100, 4, 96, 112, 172]
abbrev dktX0_count_0 : List UInt8 := dkwX0_count_0 ++ []
theorem dksX0_count_0 : cX0_count.data.toList.drop 0 = dktX0_count_0 := by decide +kernel
theorem dX0_count_0 : decode cX0_count 0 = .ok (.iload_n 2, 1) := dk_28 (dk_at dksX0_count_0 0 rfl rfl)
theorem dX0_count_1 : decode cX0_count 1 = .ok (.ldc 35, 2) := dk_18 35 (dk_at dksX0_count_0 1 rfl rfl)
theorem dX0_count_3 : decode cX0_count 3 = .ok (.iand, 1) := dk_126 (dk_at dksX0_count_0 3 rfl rfl)
theorem dX0_count_4 : decode cX0_count 4 = .ok (.aload_n 0, 1) := dk_42 (dk_at dksX0_count_0 4 rfl rfl)
theorem dX0_count_5 : decode cX0_count 5 = .ok (.getfield 23, 3) := dk_180 0 23 (dk_at dksX0_count_0 5 rfl rfl)
theorem dX0_count_8 : decode cX0_count 8 = .ok (.iload_n 1, 1) := dk_27 (dk_at dksX0_count_0 8 rfl rfl)
theorem dX0_count_9 : decode cX0_count 9 = .ok (.isub, 1) := dk_100 (dk_at dksX0_count_0 9 rfl rfl)
theorem dX0_count_10 : decode cX0_count 10 = .ok (.iconst 1, 1) := dk_4 (dk_at dksX0_count_0 10 rfl rfl)
theorem dX0_count_11 : decode cX0_count 11 = .ok (.iadd, 1) := dk_96 (dk_at dksX0_count_0 11 rfl rfl)
theorem dX0_count_12 : decode cX0_count 12 = .ok (.irem, 1) := dk_112 (dk_at dksX0_count_0 12 rfl rfl)
theorem dX0_count_13 : decode cX0_count 13 = .ok (.ireturn, 1) := dk_172 (dk_at dksX0_count_0 13 rfl rfl)
abbrev cX0_one : ByteArray := prog_7_method_9_code
def yX0_one : MethodName := ⟨RX0, "one", "(I)Z"⟩
def dkwX0_one_1 : List UInt8 := [180, 0, 10, 27, 145, 185, 0, 49, 2, 0, 4, 172]
abbrev dktX0_one_1 : List UInt8 := dkwX0_one_1 ++ []
def dkwX0_one_0 : List UInt8 := [42, 180, 0, 36, 17, 64, 0, 161, 0, 5, 3, 172, 42, 89, 180, 0, 36, 4, 96, 181, 0, 36, 42]
abbrev dktX0_one_0 : List UInt8 := dkwX0_one_0 ++ dktX0_one_1
theorem dksX0_one_0 : cX0_one.data.toList.drop 0 = dktX0_one_0 := by decide +kernel
theorem dksX0_one_1 : cX0_one.data.toList.drop 23 = dktX0_one_1 := dk_seg dksX0_one_0 23 rfl rfl
theorem dX0_one_0 : decode cX0_one 0 = .ok (.aload_n 0, 1) := dk_42 (dk_at dksX0_one_0 0 rfl rfl)
theorem dX0_one_1 : decode cX0_one 1 = .ok (.getfield 36, 3) := dk_180 0 36 (dk_at dksX0_one_0 1 rfl rfl)
theorem dX0_one_4 : decode cX0_one 4 = .ok (.sipush 16384, 3) := dk_17 64 0 (dk_at dksX0_one_0 4 rfl rfl)
theorem dX0_one_7 : decode cX0_one 7 = .ok (.if_icmp .lt 5, 3) := dk_161 0 5 (dk_at dksX0_one_0 7 rfl rfl)
theorem dX0_one_10 : decode cX0_one 10 = .ok (.iconst 0, 1) := dk_3 (dk_at dksX0_one_0 10 rfl rfl)
theorem dX0_one_11 : decode cX0_one 11 = .ok (.ireturn, 1) := dk_172 (dk_at dksX0_one_0 11 rfl rfl)
theorem dX0_one_12 : decode cX0_one 12 = .ok (.aload_n 0, 1) := dk_42 (dk_at dksX0_one_0 12 rfl rfl)
theorem dX0_one_13 : decode cX0_one 13 = .ok (.dup, 1) := dk_89 (dk_at dksX0_one_0 13 rfl rfl)
theorem dX0_one_14 : decode cX0_one 14 = .ok (.getfield 36, 3) := dk_180 0 36 (dk_at dksX0_one_0 14 rfl rfl)
theorem dX0_one_17 : decode cX0_one 17 = .ok (.iconst 1, 1) := dk_4 (dk_at dksX0_one_0 17 rfl rfl)
theorem dX0_one_18 : decode cX0_one 18 = .ok (.iadd, 1) := dk_96 (dk_at dksX0_one_0 18 rfl rfl)
theorem dX0_one_19 : decode cX0_one 19 = .ok (.putfield 36, 3) := dk_181 0 36 (dk_at dksX0_one_0 19 rfl rfl)
theorem dX0_one_22 : decode cX0_one 22 = .ok (.aload_n 0, 1) := dk_42 (dk_at dksX0_one_0 22 rfl rfl)
theorem dX0_one_23 : decode cX0_one 23 = .ok (.getfield 10, 3) := dk_180 0 10 (dk_at dksX0_one_1 0 rfl rfl)
theorem dX0_one_26 : decode cX0_one 26 = .ok (.iload_n 1, 1) := dk_27 (dk_at dksX0_one_1 3 rfl rfl)
theorem dX0_one_27 : decode cX0_one 27 = .ok (.i2b, 1) := dk_145 (dk_at dksX0_one_1 4 rfl rfl)
theorem dX0_one_28 : decode cX0_one 28 = .ok (.invokeinterface 49 2, 5) := by decide +kernel
theorem dX0_one_33 : decode cX0_one 33 = .ok (.iconst 1, 1) := dk_4 (dk_at dksX0_one_1 10 rfl rfl)
theorem dX0_one_34 : decode cX0_one 34 = .ok (.ireturn, 1) := dk_172 (dk_at dksX0_one_1 11 rfl rfl)
abbrev cX0_close : ByteArray := prog_7_method_10_code
def yX0_close : MethodName := ⟨RX0, "close", "()I"⟩
def dkwX0_close_0 : List UInt8 := [42, 3, 181, 0, 36, 42, 180, 0, 10, 42, 180, 0, 16, 3, 185, 0, 52, 3, 0, 172]
abbrev dktX0_close_0 : List UInt8 := dkwX0_close_0 ++ []
theorem dksX0_close_0 : cX0_close.data.toList.drop 0 = dktX0_close_0 := by decide +kernel
theorem dX0_close_0 : decode cX0_close 0 = .ok (.aload_n 0, 1) := dk_42 (dk_at dksX0_close_0 0 rfl rfl)
theorem dX0_close_1 : decode cX0_close 1 = .ok (.iconst 0, 1) := dk_3 (dk_at dksX0_close_0 1 rfl rfl)
theorem dX0_close_2 : decode cX0_close 2 = .ok (.putfield 36, 3) := dk_181 0 36 (dk_at dksX0_close_0 2 rfl rfl)
theorem dX0_close_5 : decode cX0_close 5 = .ok (.aload_n 0, 1) := dk_42 (dk_at dksX0_close_0 5 rfl rfl)
theorem dX0_close_6 : decode cX0_close 6 = .ok (.getfield 10, 3) := dk_180 0 10 (dk_at dksX0_close_0 6 rfl rfl)
theorem dX0_close_9 : decode cX0_close 9 = .ok (.aload_n 0, 1) := dk_42 (dk_at dksX0_close_0 9 rfl rfl)
theorem dX0_close_10 : decode cX0_close 10 = .ok (.getfield 16, 3) := dk_180 0 16 (dk_at dksX0_close_0 10 rfl rfl)
theorem dX0_close_13 : decode cX0_close 13 = .ok (.iconst 0, 1) := dk_3 (dk_at dksX0_close_0 13 rfl rfl)
theorem dX0_close_14 : decode cX0_close 14 = .ok (.invokeinterface 52 3, 5) := by decide +kernel
theorem dX0_close_19 : decode cX0_close 19 = .ok (.ireturn, 1) := dk_172 (dk_at dksX0_close_0 19 rfl rfl)
abbrev cX0_drop : ByteArray := prog_7_method_11_code
def yX0_drop : MethodName := ⟨RX0, "drop", "()V"⟩
def dkwX0_drop_0 : List UInt8 := [42, 180, 0, 10, 185, 0, 56, 1, 0, 42, 3, 181, 0, 36, 177]
abbrev dktX0_drop_0 : List UInt8 := dkwX0_drop_0 ++ []
theorem dksX0_drop_0 : cX0_drop.data.toList.drop 0 = dktX0_drop_0 := by decide +kernel
theorem dX0_drop_0 : decode cX0_drop 0 = .ok (.aload_n 0, 1) := dk_42 (dk_at dksX0_drop_0 0 rfl rfl)
theorem dX0_drop_1 : decode cX0_drop 1 = .ok (.getfield 10, 3) := dk_180 0 10 (dk_at dksX0_drop_0 1 rfl rfl)
theorem dX0_drop_4 : decode cX0_drop 4 = .ok (.invokeinterface 56 1, 5) := by decide +kernel
theorem dX0_drop_9 : decode cX0_drop 9 = .ok (.aload_n 0, 1) := dk_42 (dk_at dksX0_drop_0 9 rfl rfl)
theorem dX0_drop_10 : decode cX0_drop 10 = .ok (.iconst 0, 1) := dk_3 (dk_at dksX0_drop_0 10 rfl rfl)
theorem dX0_drop_11 : decode cX0_drop 11 = .ok (.putfield 36, 3) := dk_181 0 36 (dk_at dksX0_drop_0 11 rfl rfl)
theorem dX0_drop_14 : decode cX0_drop 14 = .ok (.return_, 1) := dk_177 (dk_at dksX0_drop_0 14 rfl rfl)
abbrev cX0_out : ByteArray := prog_7_method_12_code
def yX0_out : MethodName := ⟨RX0, "out", "(I)I"⟩
def dkwX0_out_0 : List UInt8 := [42, 180, 0, 16, 27, 18, 35, 126, 16, 64, 112, 51, 17, 0, 255, 126, 172]
abbrev dktX0_out_0 : List UInt8 := dkwX0_out_0 ++ []
theorem dksX0_out_0 : cX0_out.data.toList.drop 0 = dktX0_out_0 := by decide +kernel
theorem dX0_out_0 : decode cX0_out 0 = .ok (.aload_n 0, 1) := dk_42 (dk_at dksX0_out_0 0 rfl rfl)
theorem dX0_out_1 : decode cX0_out 1 = .ok (.getfield 16, 3) := dk_180 0 16 (dk_at dksX0_out_0 1 rfl rfl)
theorem dX0_out_4 : decode cX0_out 4 = .ok (.iload_n 1, 1) := dk_27 (dk_at dksX0_out_0 4 rfl rfl)
theorem dX0_out_5 : decode cX0_out 5 = .ok (.ldc 35, 2) := dk_18 35 (dk_at dksX0_out_0 5 rfl rfl)
theorem dX0_out_7 : decode cX0_out 7 = .ok (.iand, 1) := dk_126 (dk_at dksX0_out_0 7 rfl rfl)
theorem dX0_out_8 : decode cX0_out 8 = .ok (.bipush 64, 2) := dk_16 64 (dk_at dksX0_out_0 8 rfl rfl)
theorem dX0_out_10 : decode cX0_out 10 = .ok (.irem, 1) := dk_112 (dk_at dksX0_out_0 10 rfl rfl)
theorem dX0_out_11 : decode cX0_out 11 = .ok (.baload, 1) := dk_51 (dk_at dksX0_out_0 11 rfl rfl)
theorem dX0_out_12 : decode cX0_out 12 = .ok (.sipush 255, 3) := dk_17 0 255 (dk_at dksX0_out_0 12 rfl rfl)
theorem dX0_out_15 : decode cX0_out 15 = .ok (.iand, 1) := dk_126 (dk_at dksX0_out_0 15 rfl rfl)
theorem dX0_out_16 : decode cX0_out 16 = .ok (.ireturn, 1) := dk_172 (dk_at dksX0_out_0 16 rfl rfl)
theorem q15 : (Jvm.Cond.initialized "SmDigestDesk") ∈ lw_all := lw_g (lw_at lw_m1 1 rfl) rfl
theorem q24 : (Jvm.Cond.instantiable "SmDigestDesk" (5 : Nat)) ∈ lw_all := lw_g (lw_at lw_m1 10 rfl) rfl
theorem q26 : (Jvm.Cond.instanceMethod ({ cls := "SmDigestDesk", name := "<init>", desc := "()V" } : Jvm.MethodName)) ∈ lw_all := lw_g (lw_at lw_m1 12 rfl) rfl
theorem q27 : (Jvm.Cond.code ({ cls := "SmDigestDesk", name := "<init>", desc := "()V" } : Jvm.MethodName) prog_7_method_1_code (1 : Nat) (Option.none : Option Jvm.ClassFile.FieldType)) ∈ lw_all := lw_g (lw_at lw_m1 13 rfl) rfl
theorem q28 : (Jvm.Cond.methodLink "SmDigestDesk" (1 : Nat) ({ cls := "java/lang/Object", name := "<init>", desc := "()V" } : Jvm.MethodName)) ∈ lw_all := lw_g (lw_at lw_m1 14 rfl) rfl
theorem q31 : (Jvm.Cond.classLink "SmDigestDesk" (7 : Nat) "SM3Digest") ∈ lw_all := lw_g (lw_at lw_m1 17 rfl) rfl
theorem q33 : (Jvm.Cond.methodLink "SmDigestDesk" (9 : Nat) ({ cls := "SM3Digest", name := "<init>", desc := "()V" } : Jvm.MethodName)) ∈ lw_all := lw_g (lw_at lw_m1 19 rfl) rfl
theorem q87 : (Jvm.Cond.fieldLink "SmDigestDesk" (10 : Nat) "SmDigestDesk" "run" "LDigest;") ∈ lw_all := lw_g (lw_at lw_m1 73 rfl) rfl
theorem q88 : (Jvm.Cond.fieldLink "SmDigestDesk" (16 : Nat) "SmDigestDesk" "out" "[B") ∈ lw_all := lw_g (lw_at lw_m1 74 rfl) rfl
theorem q89 : (Jvm.Cond.fieldLink "SmDigestDesk" (36 : Nat) "SmDigestDesk" "fed" "I") ∈ lw_all := lw_g (lw_at lw_m1 75 rfl) rfl
theorem q90 : (Jvm.Cond.fieldLink "SmDigestDesk" (20 : Nat) "SmDigestDesk" "text" "[B") ∈ lw_all := lw_g (lw_at lw_m1 76 rfl) rfl
theorem q91 : (Jvm.Cond.fieldLink "SmDigestDesk" (23 : Nat) "SmDigestDesk" "size" "I") ∈ lw_all := lw_g (lw_at lw_m1 77 rfl) rfl
theorem q92 : (Jvm.Cond.lays "SmDigestDesk" "SmDigestDesk" "run" "LDigest;") ∈ lw_all := lw_g (lw_at lw_m1 78 rfl) rfl
theorem q93 : (Jvm.Cond.soleField "SmDigestDesk" "run") ∈ lw_all := lw_g (lw_at lw_m1 79 rfl) rfl
theorem q94 : (Jvm.Cond.laysFinal "SmDigestDesk" "SmDigestDesk" "out" "[B") ∈ lw_all := lw_g (lw_at lw_m1 80 rfl) rfl
theorem q95 : (Jvm.Cond.soleField "SmDigestDesk" "out") ∈ lw_all := lw_g (lw_at lw_m1 81 rfl) rfl
theorem q96 : (Jvm.Cond.lays "SmDigestDesk" "SmDigestDesk" "fed" "I") ∈ lw_all := lw_g (lw_at lw_m1 82 rfl) rfl
theorem q97 : (Jvm.Cond.soleField "SmDigestDesk" "fed") ∈ lw_all := lw_g (lw_at lw_m1 83 rfl) rfl
theorem q98 : (Jvm.Cond.laysFinal "SmDigestDesk" "SmDigestDesk" "text" "[B") ∈ lw_all := lw_g (lw_at lw_m1 84 rfl) rfl
theorem q99 : (Jvm.Cond.soleField "SmDigestDesk" "text") ∈ lw_all := lw_g (lw_at lw_m1 85 rfl) rfl
theorem q100 : (Jvm.Cond.lays "SmDigestDesk" "SmDigestDesk" "size" "I") ∈ lw_all := lw_g (lw_at lw_m1 86 rfl) rfl
theorem q101 : (Jvm.Cond.soleField "SmDigestDesk" "size") ∈ lw_all := lw_g (lw_at lw_m1 87 rfl) rfl
theorem q102 : (Jvm.Cond.superclass "SmDigestDesk" "java/lang/Object") ∈ lw_all := lw_g (lw_at lw_m1 88 rfl) rfl
theorem q104 : (Jvm.Cond.instanceMethod ({ cls := "SmDigestDesk", name := "put", desc := "(IIII)Z" } : Jvm.MethodName)) ∈ lw_all := lw_g (lw_at lw_m1 90 rfl) rfl
theorem q105 : (Jvm.Cond.selects "SmDigestDesk" ({ cls := "SmDigestDesk", name := "put", desc := "(IIII)Z" } : Jvm.MethodName) ({ cls := "SmDigestDesk", name := "put", desc := "(IIII)Z" } : Jvm.MethodName)) ∈ lw_all := lw_g (lw_at lw_m1 91 rfl) rfl
theorem q106 : (Jvm.Cond.code ({ cls := "SmDigestDesk", name := "put", desc := "(IIII)Z" } : Jvm.MethodName) prog_7_method_2_code (5 : Nat) (Option.some Jvm.ClassFile.FieldType.boolean)) ∈ lw_all := lw_g (lw_at lw_m1 92 rfl) rfl
theorem q107 : (Jvm.Cond.methodLink "SmDigestDesk" (27 : Nat) ({ cls := "SmDigestDesk", name := "word", desc := "(II)V" } : Jvm.MethodName)) ∈ lw_all := lw_g (lw_at lw_m1 93 rfl) rfl
theorem q108 : (Jvm.Cond.privateMethod ({ cls := "SmDigestDesk", name := "word", desc := "(II)V" } : Jvm.MethodName)) ∈ lw_tbl := lw_at lw_m1 94 rfl
theorem q109 : (Jvm.Cond.instanceMethod ({ cls := "SmDigestDesk", name := "word", desc := "(II)V" } : Jvm.MethodName)) ∈ lw_all := lw_g (lw_at lw_m1 95 rfl) rfl
theorem q110 : (Jvm.Cond.code ({ cls := "SmDigestDesk", name := "word", desc := "(II)V" } : Jvm.MethodName) prog_7_method_3_code (3 : Nat) (Option.none : Option Jvm.ClassFile.FieldType)) ∈ lw_all := lw_g (lw_at lw_m1 96 rfl) rfl
theorem q112 : (Jvm.Cond.instanceMethod ({ cls := "SmDigestDesk", name := "trim", desc := "(I)V" } : Jvm.MethodName)) ∈ lw_all := lw_g (lw_at lw_m1 98 rfl) rfl
theorem q113 : (Jvm.Cond.selects "SmDigestDesk" ({ cls := "SmDigestDesk", name := "trim", desc := "(I)V" } : Jvm.MethodName) ({ cls := "SmDigestDesk", name := "trim", desc := "(I)V" } : Jvm.MethodName)) ∈ lw_all := lw_g (lw_at lw_m1 99 rfl) rfl
theorem q114 : (Jvm.Cond.code ({ cls := "SmDigestDesk", name := "trim", desc := "(I)V" } : Jvm.MethodName) prog_7_method_4_code (2 : Nat) (Option.none : Option Jvm.ClassFile.FieldType)) ∈ lw_all := lw_g (lw_at lw_m1 100 rfl) rfl
theorem q115 : (Jvm.Cond.methodLink "SmDigestDesk" (31 : Nat) ({ cls := "SmDigestDesk", name := "from", desc := "(I)I" } : Jvm.MethodName)) ∈ lw_all := lw_g (lw_at lw_m1 101 rfl) rfl
theorem q116 : (Jvm.Cond.privateMethod ({ cls := "SmDigestDesk", name := "from", desc := "(I)I" } : Jvm.MethodName)) ∈ lw_tbl := lw_at lw_m1 102 rfl
theorem q117 : (Jvm.Cond.instanceMethod ({ cls := "SmDigestDesk", name := "from", desc := "(I)I" } : Jvm.MethodName)) ∈ lw_all := lw_g (lw_at lw_m1 103 rfl) rfl
theorem q118 : (Jvm.Cond.code ({ cls := "SmDigestDesk", name := "from", desc := "(I)I" } : Jvm.MethodName) prog_7_method_5_code (2 : Nat) (Option.some Jvm.ClassFile.FieldType.int)) ∈ lw_all := lw_g (lw_at lw_m1 104 rfl) rfl
theorem q119 : (Jvm.Cond.constant "SmDigestDesk" (35 : Nat) (2147483647 : Int32)) ∈ lw_all := lw_g (lw_at lw_m1 105 rfl) rfl
theorem q121 : (Jvm.Cond.instanceMethod ({ cls := "SmDigestDesk", name := "begin", desc := "(I)V" } : Jvm.MethodName)) ∈ lw_all := lw_g (lw_at lw_m1 107 rfl) rfl
theorem q122 : (Jvm.Cond.selects "SmDigestDesk" ({ cls := "SmDigestDesk", name := "begin", desc := "(I)V" } : Jvm.MethodName) ({ cls := "SmDigestDesk", name := "begin", desc := "(I)V" } : Jvm.MethodName)) ∈ lw_all := lw_g (lw_at lw_m1 108 rfl) rfl
theorem q123 : (Jvm.Cond.code ({ cls := "SmDigestDesk", name := "begin", desc := "(I)V" } : Jvm.MethodName) prog_7_method_7_code (2 : Nat) (Option.none : Option Jvm.ClassFile.FieldType)) ∈ lw_all := lw_g (lw_at lw_m1 109 rfl) rfl
theorem q125 : (Jvm.Cond.instanceMethod ({ cls := "SmDigestDesk", name := "feed", desc := "(II)Z" } : Jvm.MethodName)) ∈ lw_all := lw_g (lw_at lw_m1 111 rfl) rfl
theorem q126 : (Jvm.Cond.selects "SmDigestDesk" ({ cls := "SmDigestDesk", name := "feed", desc := "(II)Z" } : Jvm.MethodName) ({ cls := "SmDigestDesk", name := "feed", desc := "(II)Z" } : Jvm.MethodName)) ∈ lw_all := lw_g (lw_at lw_m1 112 rfl) rfl
theorem q127 : (Jvm.Cond.code ({ cls := "SmDigestDesk", name := "feed", desc := "(II)Z" } : Jvm.MethodName) prog_7_method_8_code (5 : Nat) (Option.some Jvm.ClassFile.FieldType.boolean)) ∈ lw_all := lw_g (lw_at lw_m1 113 rfl) rfl
theorem q128 : (Jvm.Cond.methodLink "SmDigestDesk" (39 : Nat) ({ cls := "SmDigestDesk", name := "count", desc := "(II)I" } : Jvm.MethodName)) ∈ lw_all := lw_g (lw_at lw_m1 114 rfl) rfl
theorem q129 : (Jvm.Cond.privateMethod ({ cls := "SmDigestDesk", name := "count", desc := "(II)I" } : Jvm.MethodName)) ∈ lw_tbl := lw_at lw_m1 115 rfl
theorem q130 : (Jvm.Cond.instanceMethod ({ cls := "SmDigestDesk", name := "count", desc := "(II)I" } : Jvm.MethodName)) ∈ lw_all := lw_g (lw_at lw_m1 116 rfl) rfl
theorem q131 : (Jvm.Cond.code ({ cls := "SmDigestDesk", name := "count", desc := "(II)I" } : Jvm.MethodName) prog_7_method_6_code (3 : Nat) (Option.some Jvm.ClassFile.FieldType.int)) ∈ lw_all := lw_g (lw_at lw_m1 117 rfl) rfl
theorem q132 : (Jvm.Cond.interfaceEntry "SmDigestDesk" (43 : Nat)) ∈ lw_tbl := lw_at lw_m1 118 rfl
theorem q133 : (Jvm.Cond.methodLink "SmDigestDesk" (43 : Nat) ({ cls := "Digest", name := "update", desc := "([BII)V" } : Jvm.MethodName)) ∈ lw_all := lw_g (lw_at lw_m1 119 rfl) rfl
theorem q185 : (Jvm.Cond.instanceMethod ({ cls := "SmDigestDesk", name := "one", desc := "(I)Z" } : Jvm.MethodName)) ∈ lw_all := lw_g (lw_at lw_m1 171 rfl) rfl
theorem q186 : (Jvm.Cond.selects "SmDigestDesk" ({ cls := "SmDigestDesk", name := "one", desc := "(I)Z" } : Jvm.MethodName) ({ cls := "SmDigestDesk", name := "one", desc := "(I)Z" } : Jvm.MethodName)) ∈ lw_all := lw_g (lw_at lw_m1 172 rfl) rfl
theorem q187 : (Jvm.Cond.code ({ cls := "SmDigestDesk", name := "one", desc := "(I)Z" } : Jvm.MethodName) prog_7_method_9_code (2 : Nat) (Option.some Jvm.ClassFile.FieldType.boolean)) ∈ lw_all := lw_g (lw_at lw_m1 173 rfl) rfl
theorem q188 : (Jvm.Cond.interfaceEntry "SmDigestDesk" (49 : Nat)) ∈ lw_tbl := lw_at lw_m1 174 rfl
theorem q189 : (Jvm.Cond.methodLink "SmDigestDesk" (49 : Nat) ({ cls := "Digest", name := "update", desc := "(B)V" } : Jvm.MethodName)) ∈ lw_all := lw_g (lw_at lw_m1 175 rfl) rfl
theorem q198 : (Jvm.Cond.instanceMethod ({ cls := "SmDigestDesk", name := "close", desc := "()I" } : Jvm.MethodName)) ∈ lw_all := lw_g (lw_at lw_m1 184 rfl) rfl
theorem q199 : (Jvm.Cond.selects "SmDigestDesk" ({ cls := "SmDigestDesk", name := "close", desc := "()I" } : Jvm.MethodName) ({ cls := "SmDigestDesk", name := "close", desc := "()I" } : Jvm.MethodName)) ∈ lw_all := lw_g (lw_at lw_m1 185 rfl) rfl
theorem q200 : (Jvm.Cond.code ({ cls := "SmDigestDesk", name := "close", desc := "()I" } : Jvm.MethodName) prog_7_method_10_code (1 : Nat) (Option.some Jvm.ClassFile.FieldType.int)) ∈ lw_all := lw_g (lw_at lw_m1 186 rfl) rfl
theorem q201 : (Jvm.Cond.interfaceEntry "SmDigestDesk" (52 : Nat)) ∈ lw_tbl := lw_at lw_m1 187 rfl
theorem q202 : (Jvm.Cond.methodLink "SmDigestDesk" (52 : Nat) ({ cls := "Digest", name := "doFinal", desc := "([BI)I" } : Jvm.MethodName)) ∈ lw_all := lw_g (lw_at lw_m1 188 rfl) rfl
theorem q234 : (Jvm.Cond.instanceMethod ({ cls := "SmDigestDesk", name := "drop", desc := "()V" } : Jvm.MethodName)) ∈ lw_all := lw_g (lw_at lw_m1 220 rfl) rfl
theorem q235 : (Jvm.Cond.selects "SmDigestDesk" ({ cls := "SmDigestDesk", name := "drop", desc := "()V" } : Jvm.MethodName) ({ cls := "SmDigestDesk", name := "drop", desc := "()V" } : Jvm.MethodName)) ∈ lw_all := lw_g (lw_at lw_m1 221 rfl) rfl
theorem q236 : (Jvm.Cond.code ({ cls := "SmDigestDesk", name := "drop", desc := "()V" } : Jvm.MethodName) prog_7_method_11_code (1 : Nat) (Option.none : Option Jvm.ClassFile.FieldType)) ∈ lw_all := lw_g (lw_at lw_m1 222 rfl) rfl
theorem q237 : (Jvm.Cond.interfaceEntry "SmDigestDesk" (56 : Nat)) ∈ lw_tbl := lw_at lw_m1 223 rfl
theorem q238 : (Jvm.Cond.methodLink "SmDigestDesk" (56 : Nat) ({ cls := "Digest", name := "reset", desc := "()V" } : Jvm.MethodName)) ∈ lw_all := lw_g (lw_at lw_m1 224 rfl) rfl
theorem q245 : (Jvm.Cond.instanceMethod ({ cls := "SmDigestDesk", name := "out", desc := "(I)I" } : Jvm.MethodName)) ∈ lw_all := lw_g (lw_at lw_m1 231 rfl) rfl
theorem q246 : (Jvm.Cond.selects "SmDigestDesk" ({ cls := "SmDigestDesk", name := "out", desc := "(I)I" } : Jvm.MethodName) ({ cls := "SmDigestDesk", name := "out", desc := "(I)I" } : Jvm.MethodName)) ∈ lw_all := lw_g (lw_at lw_m1 232 rfl) rfl
theorem q247 : (Jvm.Cond.code ({ cls := "SmDigestDesk", name := "out", desc := "(I)I" } : Jvm.MethodName) prog_7_method_12_code (2 : Nat) (Option.some Jvm.ClassFile.FieldType.int)) ∈ lw_all := lw_g (lw_at lw_m1 233 rfl) rfl
theorem in_X0 : ∀ w ∈ wsX00, w ∈ lw_all := lw_in wsX00 [92, 94, 96, 98, 100] (by decide +kernel) (by decide +kernel)
/-! GeneralDigest -/
set_option maxRecDepth 100000
def RX1 : String := "GeneralDigest"
abbrev cX1_init : ByteArray := prog_4_method_1_code
def yX1_init : MethodName := ⟨RX1, "<init>", "(LCryptoServicePurpose;)V"⟩
def dkwX1_init_0 : List UInt8 := [42, 183, 0, 1, 42, 7, 188, 8, 181, 0, 7, 42, 43, 181, 0, 13, 42, 3, 181, 0, 17, 177]
abbrev dktX1_init_0 : List UInt8 := dkwX1_init_0 ++ []
theorem dksX1_init_0 : cX1_init.data.toList.drop 0 = dktX1_init_0 := by decide +kernel
theorem dX1_init_0 : decode cX1_init 0 = .ok (.aload_n 0, 1) := dk_42 (dk_at dksX1_init_0 0 rfl rfl)
theorem dX1_init_1 : decode cX1_init 1 = .ok (.invokespecial 1, 3) := dk_183 0 1 (dk_at dksX1_init_0 1 rfl rfl)
theorem dX1_init_4 : decode cX1_init 4 = .ok (.aload_n 0, 1) := dk_42 (dk_at dksX1_init_0 4 rfl rfl)
theorem dX1_init_5 : decode cX1_init 5 = .ok (.iconst 4, 1) := dk_7 (dk_at dksX1_init_0 5 rfl rfl)
theorem dX1_init_6 : decode cX1_init 6 = .ok (.newarray .byte, 2) := dk_188_8 (dk_at dksX1_init_0 6 rfl rfl)
theorem dX1_init_8 : decode cX1_init 8 = .ok (.putfield 7, 3) := dk_181 0 7 (dk_at dksX1_init_0 8 rfl rfl)
theorem dX1_init_11 : decode cX1_init 11 = .ok (.aload_n 0, 1) := dk_42 (dk_at dksX1_init_0 11 rfl rfl)
theorem dX1_init_12 : decode cX1_init 12 = .ok (.aload_n 1, 1) := dk_43 (dk_at dksX1_init_0 12 rfl rfl)
theorem dX1_init_13 : decode cX1_init 13 = .ok (.putfield 13, 3) := dk_181 0 13 (dk_at dksX1_init_0 13 rfl rfl)
theorem dX1_init_16 : decode cX1_init 16 = .ok (.aload_n 0, 1) := dk_42 (dk_at dksX1_init_0 16 rfl rfl)
theorem dX1_init_17 : decode cX1_init 17 = .ok (.iconst 0, 1) := dk_3 (dk_at dksX1_init_0 17 rfl rfl)
theorem dX1_init_18 : decode cX1_init 18 = .ok (.putfield 17, 3) := dk_181 0 17 (dk_at dksX1_init_0 18 rfl rfl)
theorem dX1_init_21 : decode cX1_init 21 = .ok (.return_, 1) := dk_177 (dk_at dksX1_init_0 21 rfl rfl)
abbrev cX1_reset : ByteArray := prog_4_method_5_code
def yX1_reset : MethodName := ⟨RX1, "reset", "()V"⟩
def dkwX1_reset_1 : List UInt8 := [180, 0, 7, 27, 3, 84, 132, 1, 1, 167, 255, 237, 177]
abbrev dktX1_reset_1 : List UInt8 := dkwX1_reset_1 ++ []
def dkwX1_reset_0 : List UInt8 := [42, 9, 181, 0, 25, 42, 3, 181, 0, 17, 3, 60, 27, 42, 180, 0, 7, 190, 162, 0, 16, 42]
abbrev dktX1_reset_0 : List UInt8 := dkwX1_reset_0 ++ dktX1_reset_1
theorem dksX1_reset_0 : cX1_reset.data.toList.drop 0 = dktX1_reset_0 := by decide +kernel
theorem dksX1_reset_1 : cX1_reset.data.toList.drop 22 = dktX1_reset_1 := dk_seg dksX1_reset_0 22 rfl rfl
theorem dX1_reset_0 : decode cX1_reset 0 = .ok (.aload_n 0, 1) := dk_42 (dk_at dksX1_reset_0 0 rfl rfl)
theorem dX1_reset_1 : decode cX1_reset 1 = .ok (.lconst 0, 1) := dk_9 (dk_at dksX1_reset_0 1 rfl rfl)
theorem dX1_reset_2 : decode cX1_reset 2 = .ok (.putfield 25, 3) := dk_181 0 25 (dk_at dksX1_reset_0 2 rfl rfl)
theorem dX1_reset_5 : decode cX1_reset 5 = .ok (.aload_n 0, 1) := dk_42 (dk_at dksX1_reset_0 5 rfl rfl)
theorem dX1_reset_6 : decode cX1_reset 6 = .ok (.iconst 0, 1) := dk_3 (dk_at dksX1_reset_0 6 rfl rfl)
theorem dX1_reset_7 : decode cX1_reset 7 = .ok (.putfield 17, 3) := dk_181 0 17 (dk_at dksX1_reset_0 7 rfl rfl)
theorem dX1_reset_10 : decode cX1_reset 10 = .ok (.iconst 0, 1) := dk_3 (dk_at dksX1_reset_0 10 rfl rfl)
theorem dX1_reset_11 : decode cX1_reset 11 = .ok (.istore_n 1, 1) := dk_60 (dk_at dksX1_reset_0 11 rfl rfl)
theorem dX1_reset_12 : decode cX1_reset 12 = .ok (.iload_n 1, 1) := dk_27 (dk_at dksX1_reset_0 12 rfl rfl)
theorem dX1_reset_13 : decode cX1_reset 13 = .ok (.aload_n 0, 1) := dk_42 (dk_at dksX1_reset_0 13 rfl rfl)
theorem dX1_reset_14 : decode cX1_reset 14 = .ok (.getfield 7, 3) := dk_180 0 7 (dk_at dksX1_reset_0 14 rfl rfl)
theorem dX1_reset_17 : decode cX1_reset 17 = .ok (.arraylength, 1) := dk_190 (dk_at dksX1_reset_0 17 rfl rfl)
theorem dX1_reset_18 : decode cX1_reset 18 = .ok (.if_icmp .ge 16, 3) := dk_162 0 16 (dk_at dksX1_reset_0 18 rfl rfl)
theorem dX1_reset_21 : decode cX1_reset 21 = .ok (.aload_n 0, 1) := dk_42 (dk_at dksX1_reset_0 21 rfl rfl)
theorem dX1_reset_22 : decode cX1_reset 22 = .ok (.getfield 7, 3) := dk_180 0 7 (dk_at dksX1_reset_1 0 rfl rfl)
theorem dX1_reset_25 : decode cX1_reset 25 = .ok (.iload_n 1, 1) := dk_27 (dk_at dksX1_reset_1 3 rfl rfl)
theorem dX1_reset_26 : decode cX1_reset 26 = .ok (.iconst 0, 1) := dk_3 (dk_at dksX1_reset_1 4 rfl rfl)
theorem dX1_reset_27 : decode cX1_reset 27 = .ok (.bastore, 1) := dk_84 (dk_at dksX1_reset_1 5 rfl rfl)
theorem dX1_reset_28 : decode cX1_reset 28 = .ok (.iinc 1 1, 3) := dk_132 1 1 (dk_at dksX1_reset_1 6 rfl rfl)
theorem dX1_reset_31 : decode cX1_reset 31 = .ok (.goto (-19), 3) := dk_167 255 237 (dk_at dksX1_reset_1 9 rfl rfl)
theorem dX1_reset_34 : decode cX1_reset 34 = .ok (.return_, 1) := dk_177 (dk_at dksX1_reset_1 12 rfl rfl)
abbrev cX1_update : ByteArray := prog_4_method_3_code
def yX1_update : MethodName := ⟨RX1, "update", "([BII)V"⟩
def dkwX1_update_6 : List UInt8 := [181, 0, 25, 177]
abbrev dktX1_update_6 : List UInt8 := dkwX1_update_6 ++ []
def dkwX1_update_5 : List UInt8 := [181, 0, 17, 43, 28, 21, 4, 132, 4, 1, 96, 51, 84, 167, 255, 225, 42, 89, 180, 0, 25, 29, 133, 97]
abbrev dktX1_update_5 : List UInt8 := dkwX1_update_5 ++ dktX1_update_6
def dkwX1_update_4 : List UInt8 := [132, 4, 4, 167, 255, 237, 21, 4, 29, 162, 0, 31, 42, 180, 0, 7, 42, 89, 180, 0, 17, 90, 4, 96]
abbrev dktX1_update_4 : List UInt8 := dkwX1_update_4 ++ dktX1_update_5
def dkwX1_update_3 : List UInt8 := [167, 0, 3, 29, 6, 100, 54, 5, 21, 4, 21, 5, 162, 0, 18, 42, 43, 28, 21, 4, 96, 182, 0, 21]
abbrev dktX1_update_3 : List UInt8 := dkwX1_update_3 ++ dktX1_update_4
def dkwX1_update_2 : List UInt8 := [42, 180, 0, 17, 7, 160, 255, 220, 42, 42, 180, 0, 7, 3, 182, 0, 21, 42, 3, 181, 0, 17]
abbrev dktX1_update_2 : List UInt8 := dkwX1_update_2 ++ dktX1_update_3
def dkwX1_update_1 : List UInt8 := [180, 0, 7, 42, 89, 180, 0, 17, 90, 4, 96, 181, 0, 17, 43, 28, 21, 4, 132, 4, 1, 96, 51, 84]
abbrev dktX1_update_1 : List UInt8 := dkwX1_update_1 ++ dktX1_update_2
def dkwX1_update_0 : List UInt8 := [3, 29, 184, 0, 29, 62, 3, 54, 4, 42, 180, 0, 17, 153, 0, 59, 21, 4, 29, 162, 0, 53, 42]
abbrev dktX1_update_0 : List UInt8 := dkwX1_update_0 ++ dktX1_update_1
theorem dksX1_update_0 : cX1_update.data.toList.drop 0 = dktX1_update_0 := by decide +kernel
theorem dksX1_update_1 : cX1_update.data.toList.drop 23 = dktX1_update_1 := dk_seg dksX1_update_0 23 rfl rfl
theorem dksX1_update_2 : cX1_update.data.toList.drop 47 = dktX1_update_2 := dk_seg dksX1_update_1 24 rfl rfl
theorem dksX1_update_3 : cX1_update.data.toList.drop 69 = dktX1_update_3 := dk_seg dksX1_update_2 22 rfl rfl
theorem dksX1_update_4 : cX1_update.data.toList.drop 93 = dktX1_update_4 := dk_seg dksX1_update_3 24 rfl rfl
theorem dksX1_update_5 : cX1_update.data.toList.drop 117 = dktX1_update_5 := dk_seg dksX1_update_4 24 rfl rfl
theorem dksX1_update_6 : cX1_update.data.toList.drop 141 = dktX1_update_6 := dk_seg dksX1_update_5 24 rfl rfl
theorem dX1_update_0 : decode cX1_update 0 = .ok (.iconst 0, 1) := dk_3 (dk_at dksX1_update_0 0 rfl rfl)
theorem dX1_update_1 : decode cX1_update 1 = .ok (.iload_n 3, 1) := dk_29 (dk_at dksX1_update_0 1 rfl rfl)
theorem dX1_update_2 : decode cX1_update 2 = .ok (.invokestatic 29, 3) := dk_184 0 29 (dk_at dksX1_update_0 2 rfl rfl)
theorem dX1_update_5 : decode cX1_update 5 = .ok (.istore_n 3, 1) := dk_62 (dk_at dksX1_update_0 5 rfl rfl)
theorem dX1_update_6 : decode cX1_update 6 = .ok (.iconst 0, 1) := dk_3 (dk_at dksX1_update_0 6 rfl rfl)
theorem dX1_update_7 : decode cX1_update 7 = .ok (.istore 4, 2) := dk_54 4 (dk_at dksX1_update_0 7 rfl rfl)
theorem dX1_update_9 : decode cX1_update 9 = .ok (.aload_n 0, 1) := dk_42 (dk_at dksX1_update_0 9 rfl rfl)
theorem dX1_update_10 : decode cX1_update 10 = .ok (.getfield 17, 3) := dk_180 0 17 (dk_at dksX1_update_0 10 rfl rfl)
theorem dX1_update_13 : decode cX1_update 13 = .ok (.ifCond .eq 59, 3) := dk_153 0 59 (dk_at dksX1_update_0 13 rfl rfl)
theorem dX1_update_16 : decode cX1_update 16 = .ok (.iload 4, 2) := dk_21 4 (dk_at dksX1_update_0 16 rfl rfl)
theorem dX1_update_18 : decode cX1_update 18 = .ok (.iload_n 3, 1) := dk_29 (dk_at dksX1_update_0 18 rfl rfl)
theorem dX1_update_19 : decode cX1_update 19 = .ok (.if_icmp .ge 53, 3) := dk_162 0 53 (dk_at dksX1_update_0 19 rfl rfl)
theorem dX1_update_22 : decode cX1_update 22 = .ok (.aload_n 0, 1) := dk_42 (dk_at dksX1_update_0 22 rfl rfl)
theorem dX1_update_23 : decode cX1_update 23 = .ok (.getfield 7, 3) := dk_180 0 7 (dk_at dksX1_update_1 0 rfl rfl)
theorem dX1_update_26 : decode cX1_update 26 = .ok (.aload_n 0, 1) := dk_42 (dk_at dksX1_update_1 3 rfl rfl)
theorem dX1_update_27 : decode cX1_update 27 = .ok (.dup, 1) := dk_89 (dk_at dksX1_update_1 4 rfl rfl)
theorem dX1_update_28 : decode cX1_update 28 = .ok (.getfield 17, 3) := dk_180 0 17 (dk_at dksX1_update_1 5 rfl rfl)
theorem dX1_update_31 : decode cX1_update 31 = .ok (.dup_x1, 1) := dk_90 (dk_at dksX1_update_1 8 rfl rfl)
theorem dX1_update_32 : decode cX1_update 32 = .ok (.iconst 1, 1) := dk_4 (dk_at dksX1_update_1 9 rfl rfl)
theorem dX1_update_33 : decode cX1_update 33 = .ok (.iadd, 1) := dk_96 (dk_at dksX1_update_1 10 rfl rfl)
theorem dX1_update_34 : decode cX1_update 34 = .ok (.putfield 17, 3) := dk_181 0 17 (dk_at dksX1_update_1 11 rfl rfl)
theorem dX1_update_37 : decode cX1_update 37 = .ok (.aload_n 1, 1) := dk_43 (dk_at dksX1_update_1 14 rfl rfl)
theorem dX1_update_38 : decode cX1_update 38 = .ok (.iload_n 2, 1) := dk_28 (dk_at dksX1_update_1 15 rfl rfl)
theorem dX1_update_39 : decode cX1_update 39 = .ok (.iload 4, 2) := dk_21 4 (dk_at dksX1_update_1 16 rfl rfl)
theorem dX1_update_41 : decode cX1_update 41 = .ok (.iinc 4 1, 3) := dk_132 4 1 (dk_at dksX1_update_1 18 rfl rfl)
theorem dX1_update_44 : decode cX1_update 44 = .ok (.iadd, 1) := dk_96 (dk_at dksX1_update_1 21 rfl rfl)
theorem dX1_update_45 : decode cX1_update 45 = .ok (.baload, 1) := dk_51 (dk_at dksX1_update_1 22 rfl rfl)
theorem dX1_update_46 : decode cX1_update 46 = .ok (.bastore, 1) := dk_84 (dk_at dksX1_update_1 23 rfl rfl)
theorem dX1_update_47 : decode cX1_update 47 = .ok (.aload_n 0, 1) := dk_42 (dk_at dksX1_update_2 0 rfl rfl)
theorem dX1_update_48 : decode cX1_update 48 = .ok (.getfield 17, 3) := dk_180 0 17 (dk_at dksX1_update_2 1 rfl rfl)
theorem dX1_update_51 : decode cX1_update 51 = .ok (.iconst 4, 1) := dk_7 (dk_at dksX1_update_2 4 rfl rfl)
theorem dX1_update_52 : decode cX1_update 52 = .ok (.if_icmp .ne (-36), 3) := dk_160 255 220 (dk_at dksX1_update_2 5 rfl rfl)
theorem dX1_update_55 : decode cX1_update 55 = .ok (.aload_n 0, 1) := dk_42 (dk_at dksX1_update_2 8 rfl rfl)
theorem dX1_update_56 : decode cX1_update 56 = .ok (.aload_n 0, 1) := dk_42 (dk_at dksX1_update_2 9 rfl rfl)
theorem dX1_update_57 : decode cX1_update 57 = .ok (.getfield 7, 3) := dk_180 0 7 (dk_at dksX1_update_2 10 rfl rfl)
theorem dX1_update_60 : decode cX1_update 60 = .ok (.iconst 0, 1) := dk_3 (dk_at dksX1_update_2 13 rfl rfl)
theorem dX1_update_61 : decode cX1_update 61 = .ok (.invokevirtual 21, 3) := dk_182 0 21 (dk_at dksX1_update_2 14 rfl rfl)
theorem dX1_update_64 : decode cX1_update 64 = .ok (.aload_n 0, 1) := dk_42 (dk_at dksX1_update_2 17 rfl rfl)
theorem dX1_update_65 : decode cX1_update 65 = .ok (.iconst 0, 1) := dk_3 (dk_at dksX1_update_2 18 rfl rfl)
theorem dX1_update_66 : decode cX1_update 66 = .ok (.putfield 17, 3) := dk_181 0 17 (dk_at dksX1_update_2 19 rfl rfl)
theorem dX1_update_69 : decode cX1_update 69 = .ok (.goto 3, 3) := dk_167 0 3 (dk_at dksX1_update_3 0 rfl rfl)
theorem dX1_update_72 : decode cX1_update 72 = .ok (.iload_n 3, 1) := dk_29 (dk_at dksX1_update_3 3 rfl rfl)
theorem dX1_update_73 : decode cX1_update 73 = .ok (.iconst 3, 1) := dk_6 (dk_at dksX1_update_3 4 rfl rfl)
theorem dX1_update_74 : decode cX1_update 74 = .ok (.isub, 1) := dk_100 (dk_at dksX1_update_3 5 rfl rfl)
theorem dX1_update_75 : decode cX1_update 75 = .ok (.istore 5, 2) := dk_54 5 (dk_at dksX1_update_3 6 rfl rfl)
theorem dX1_update_77 : decode cX1_update 77 = .ok (.iload 4, 2) := dk_21 4 (dk_at dksX1_update_3 8 rfl rfl)
theorem dX1_update_79 : decode cX1_update 79 = .ok (.iload 5, 2) := dk_21 5 (dk_at dksX1_update_3 10 rfl rfl)
theorem dX1_update_81 : decode cX1_update 81 = .ok (.if_icmp .ge 18, 3) := dk_162 0 18 (dk_at dksX1_update_3 12 rfl rfl)
theorem dX1_update_84 : decode cX1_update 84 = .ok (.aload_n 0, 1) := dk_42 (dk_at dksX1_update_3 15 rfl rfl)
theorem dX1_update_85 : decode cX1_update 85 = .ok (.aload_n 1, 1) := dk_43 (dk_at dksX1_update_3 16 rfl rfl)
theorem dX1_update_86 : decode cX1_update 86 = .ok (.iload_n 2, 1) := dk_28 (dk_at dksX1_update_3 17 rfl rfl)
theorem dX1_update_87 : decode cX1_update 87 = .ok (.iload 4, 2) := dk_21 4 (dk_at dksX1_update_3 18 rfl rfl)
theorem dX1_update_89 : decode cX1_update 89 = .ok (.iadd, 1) := dk_96 (dk_at dksX1_update_3 20 rfl rfl)
theorem dX1_update_90 : decode cX1_update 90 = .ok (.invokevirtual 21, 3) := dk_182 0 21 (dk_at dksX1_update_3 21 rfl rfl)
theorem dX1_update_93 : decode cX1_update 93 = .ok (.iinc 4 4, 3) := dk_132 4 4 (dk_at dksX1_update_4 0 rfl rfl)
theorem dX1_update_96 : decode cX1_update 96 = .ok (.goto (-19), 3) := dk_167 255 237 (dk_at dksX1_update_4 3 rfl rfl)
theorem dX1_update_99 : decode cX1_update 99 = .ok (.iload 4, 2) := dk_21 4 (dk_at dksX1_update_4 6 rfl rfl)
theorem dX1_update_101 : decode cX1_update 101 = .ok (.iload_n 3, 1) := dk_29 (dk_at dksX1_update_4 8 rfl rfl)
theorem dX1_update_102 : decode cX1_update 102 = .ok (.if_icmp .ge 31, 3) := dk_162 0 31 (dk_at dksX1_update_4 9 rfl rfl)
theorem dX1_update_105 : decode cX1_update 105 = .ok (.aload_n 0, 1) := dk_42 (dk_at dksX1_update_4 12 rfl rfl)
theorem dX1_update_106 : decode cX1_update 106 = .ok (.getfield 7, 3) := dk_180 0 7 (dk_at dksX1_update_4 13 rfl rfl)
theorem dX1_update_109 : decode cX1_update 109 = .ok (.aload_n 0, 1) := dk_42 (dk_at dksX1_update_4 16 rfl rfl)
theorem dX1_update_110 : decode cX1_update 110 = .ok (.dup, 1) := dk_89 (dk_at dksX1_update_4 17 rfl rfl)
theorem dX1_update_111 : decode cX1_update 111 = .ok (.getfield 17, 3) := dk_180 0 17 (dk_at dksX1_update_4 18 rfl rfl)
theorem dX1_update_114 : decode cX1_update 114 = .ok (.dup_x1, 1) := dk_90 (dk_at dksX1_update_4 21 rfl rfl)
theorem dX1_update_115 : decode cX1_update 115 = .ok (.iconst 1, 1) := dk_4 (dk_at dksX1_update_4 22 rfl rfl)
theorem dX1_update_116 : decode cX1_update 116 = .ok (.iadd, 1) := dk_96 (dk_at dksX1_update_4 23 rfl rfl)
theorem dX1_update_117 : decode cX1_update 117 = .ok (.putfield 17, 3) := dk_181 0 17 (dk_at dksX1_update_5 0 rfl rfl)
theorem dX1_update_120 : decode cX1_update 120 = .ok (.aload_n 1, 1) := dk_43 (dk_at dksX1_update_5 3 rfl rfl)
theorem dX1_update_121 : decode cX1_update 121 = .ok (.iload_n 2, 1) := dk_28 (dk_at dksX1_update_5 4 rfl rfl)
theorem dX1_update_122 : decode cX1_update 122 = .ok (.iload 4, 2) := dk_21 4 (dk_at dksX1_update_5 5 rfl rfl)
theorem dX1_update_124 : decode cX1_update 124 = .ok (.iinc 4 1, 3) := dk_132 4 1 (dk_at dksX1_update_5 7 rfl rfl)
theorem dX1_update_127 : decode cX1_update 127 = .ok (.iadd, 1) := dk_96 (dk_at dksX1_update_5 10 rfl rfl)
theorem dX1_update_128 : decode cX1_update 128 = .ok (.baload, 1) := dk_51 (dk_at dksX1_update_5 11 rfl rfl)
theorem dX1_update_129 : decode cX1_update 129 = .ok (.bastore, 1) := dk_84 (dk_at dksX1_update_5 12 rfl rfl)
theorem dX1_update_130 : decode cX1_update 130 = .ok (.goto (-31), 3) := dk_167 255 225 (dk_at dksX1_update_5 13 rfl rfl)
theorem dX1_update_133 : decode cX1_update 133 = .ok (.aload_n 0, 1) := dk_42 (dk_at dksX1_update_5 16 rfl rfl)
theorem dX1_update_134 : decode cX1_update 134 = .ok (.dup, 1) := dk_89 (dk_at dksX1_update_5 17 rfl rfl)
theorem dX1_update_135 : decode cX1_update 135 = .ok (.getfield 25, 3) := dk_180 0 25 (dk_at dksX1_update_5 18 rfl rfl)
theorem dX1_update_138 : decode cX1_update 138 = .ok (.iload_n 3, 1) := dk_29 (dk_at dksX1_update_5 21 rfl rfl)
theorem dX1_update_139 : decode cX1_update 139 = .ok (.i2l, 1) := dk_133 (dk_at dksX1_update_5 22 rfl rfl)
theorem dX1_update_140 : decode cX1_update 140 = .ok (.ladd, 1) := dk_97 (dk_at dksX1_update_5 23 rfl rfl)
theorem dX1_update_141 : decode cX1_update 141 = .ok (.putfield 25, 3) := dk_181 0 25 (dk_at dksX1_update_6 0 rfl rfl)
theorem dX1_update_144 : decode cX1_update 144 = .ok (.return_, 1) := dk_177 (dk_at dksX1_update_6 3 rfl rfl)
abbrev cX1_update_2 : ByteArray := prog_4_method_2_code
def yX1_update_2 : MethodName := ⟨RX1, "update", "(B)V"⟩
def dkwX1_update_2_2 : List UInt8 := [180, 0, 25, 10, 97, 181, 0, 25, 177]
abbrev dktX1_update_2_2 : List UInt8 := dkwX1_update_2_2 ++ []
def dkwX1_update_2_1 : List UInt8 := [180, 0, 7, 190, 160, 0, 17, 42, 42, 180, 0, 7, 3, 182, 0, 21, 42, 3, 181, 0, 17, 42, 89]
abbrev dktX1_update_2_1 : List UInt8 := dkwX1_update_2_1 ++ dktX1_update_2_2
def dkwX1_update_2_0 : List UInt8 := [42, 180, 0, 7, 42, 89, 180, 0, 17, 90, 4, 96, 181, 0, 17, 27, 84, 42, 180, 0, 17, 42]
abbrev dktX1_update_2_0 : List UInt8 := dkwX1_update_2_0 ++ dktX1_update_2_1
theorem dksX1_update_2_0 : cX1_update_2.data.toList.drop 0 = dktX1_update_2_0 := by decide +kernel
theorem dksX1_update_2_1 : cX1_update_2.data.toList.drop 22 = dktX1_update_2_1 := dk_seg dksX1_update_2_0 22 rfl rfl
theorem dksX1_update_2_2 : cX1_update_2.data.toList.drop 45 = dktX1_update_2_2 := dk_seg dksX1_update_2_1 23 rfl rfl
theorem dX1_update_2_0 : decode cX1_update_2 0 = .ok (.aload_n 0, 1) := dk_42 (dk_at dksX1_update_2_0 0 rfl rfl)
theorem dX1_update_2_1 : decode cX1_update_2 1 = .ok (.getfield 7, 3) := dk_180 0 7 (dk_at dksX1_update_2_0 1 rfl rfl)
theorem dX1_update_2_4 : decode cX1_update_2 4 = .ok (.aload_n 0, 1) := dk_42 (dk_at dksX1_update_2_0 4 rfl rfl)
theorem dX1_update_2_5 : decode cX1_update_2 5 = .ok (.dup, 1) := dk_89 (dk_at dksX1_update_2_0 5 rfl rfl)
theorem dX1_update_2_6 : decode cX1_update_2 6 = .ok (.getfield 17, 3) := dk_180 0 17 (dk_at dksX1_update_2_0 6 rfl rfl)
theorem dX1_update_2_9 : decode cX1_update_2 9 = .ok (.dup_x1, 1) := dk_90 (dk_at dksX1_update_2_0 9 rfl rfl)
theorem dX1_update_2_10 : decode cX1_update_2 10 = .ok (.iconst 1, 1) := dk_4 (dk_at dksX1_update_2_0 10 rfl rfl)
theorem dX1_update_2_11 : decode cX1_update_2 11 = .ok (.iadd, 1) := dk_96 (dk_at dksX1_update_2_0 11 rfl rfl)
theorem dX1_update_2_12 : decode cX1_update_2 12 = .ok (.putfield 17, 3) := dk_181 0 17 (dk_at dksX1_update_2_0 12 rfl rfl)
theorem dX1_update_2_15 : decode cX1_update_2 15 = .ok (.iload_n 1, 1) := dk_27 (dk_at dksX1_update_2_0 15 rfl rfl)
theorem dX1_update_2_16 : decode cX1_update_2 16 = .ok (.bastore, 1) := dk_84 (dk_at dksX1_update_2_0 16 rfl rfl)
theorem dX1_update_2_17 : decode cX1_update_2 17 = .ok (.aload_n 0, 1) := dk_42 (dk_at dksX1_update_2_0 17 rfl rfl)
theorem dX1_update_2_18 : decode cX1_update_2 18 = .ok (.getfield 17, 3) := dk_180 0 17 (dk_at dksX1_update_2_0 18 rfl rfl)
theorem dX1_update_2_21 : decode cX1_update_2 21 = .ok (.aload_n 0, 1) := dk_42 (dk_at dksX1_update_2_0 21 rfl rfl)
theorem dX1_update_2_22 : decode cX1_update_2 22 = .ok (.getfield 7, 3) := dk_180 0 7 (dk_at dksX1_update_2_1 0 rfl rfl)
theorem dX1_update_2_25 : decode cX1_update_2 25 = .ok (.arraylength, 1) := dk_190 (dk_at dksX1_update_2_1 3 rfl rfl)
theorem dX1_update_2_26 : decode cX1_update_2 26 = .ok (.if_icmp .ne 17, 3) := dk_160 0 17 (dk_at dksX1_update_2_1 4 rfl rfl)
theorem dX1_update_2_29 : decode cX1_update_2 29 = .ok (.aload_n 0, 1) := dk_42 (dk_at dksX1_update_2_1 7 rfl rfl)
theorem dX1_update_2_30 : decode cX1_update_2 30 = .ok (.aload_n 0, 1) := dk_42 (dk_at dksX1_update_2_1 8 rfl rfl)
theorem dX1_update_2_31 : decode cX1_update_2 31 = .ok (.getfield 7, 3) := dk_180 0 7 (dk_at dksX1_update_2_1 9 rfl rfl)
theorem dX1_update_2_34 : decode cX1_update_2 34 = .ok (.iconst 0, 1) := dk_3 (dk_at dksX1_update_2_1 12 rfl rfl)
theorem dX1_update_2_35 : decode cX1_update_2 35 = .ok (.invokevirtual 21, 3) := dk_182 0 21 (dk_at dksX1_update_2_1 13 rfl rfl)
theorem dX1_update_2_38 : decode cX1_update_2 38 = .ok (.aload_n 0, 1) := dk_42 (dk_at dksX1_update_2_1 16 rfl rfl)
theorem dX1_update_2_39 : decode cX1_update_2 39 = .ok (.iconst 0, 1) := dk_3 (dk_at dksX1_update_2_1 17 rfl rfl)
theorem dX1_update_2_40 : decode cX1_update_2 40 = .ok (.putfield 17, 3) := dk_181 0 17 (dk_at dksX1_update_2_1 18 rfl rfl)
theorem dX1_update_2_43 : decode cX1_update_2 43 = .ok (.aload_n 0, 1) := dk_42 (dk_at dksX1_update_2_1 21 rfl rfl)
theorem dX1_update_2_44 : decode cX1_update_2 44 = .ok (.dup, 1) := dk_89 (dk_at dksX1_update_2_1 22 rfl rfl)
theorem dX1_update_2_45 : decode cX1_update_2 45 = .ok (.getfield 25, 3) := dk_180 0 25 (dk_at dksX1_update_2_2 0 rfl rfl)
theorem dX1_update_2_48 : decode cX1_update_2 48 = .ok (.lconst 1, 1) := dk_10 (dk_at dksX1_update_2_2 3 rfl rfl)
theorem dX1_update_2_49 : decode cX1_update_2 49 = .ok (.ladd, 1) := dk_97 (dk_at dksX1_update_2_2 4 rfl rfl)
theorem dX1_update_2_50 : decode cX1_update_2 50 = .ok (.putfield 25, 3) := dk_181 0 25 (dk_at dksX1_update_2_2 5 rfl rfl)
theorem dX1_update_2_53 : decode cX1_update_2 53 = .ok (.return_, 1) := dk_177 (dk_at dksX1_update_2_2 8 rfl rfl)
abbrev cX1_finish : ByteArray := prog_4_method_4_code
def yX1_finish : MethodName := ⟨RX1, "finish", "()V"⟩
def dkwX1_finish_1 : List UInt8 := [182, 0, 35, 167, 255, 244, 42, 31, 182, 0, 39, 42, 182, 0, 43, 177]
abbrev dktX1_finish_1 : List UInt8 := dkwX1_finish_1 ++ []
def dkwX1_finish_0 : List UInt8 := [42, 180, 0, 25, 6, 121, 64, 42, 16, 128, 182, 0, 35, 42, 180, 0, 17, 153, 0, 11, 42, 3]
abbrev dktX1_finish_0 : List UInt8 := dkwX1_finish_0 ++ dktX1_finish_1
theorem dksX1_finish_0 : cX1_finish.data.toList.drop 0 = dktX1_finish_0 := by decide +kernel
theorem dksX1_finish_1 : cX1_finish.data.toList.drop 22 = dktX1_finish_1 := dk_seg dksX1_finish_0 22 rfl rfl
theorem dX1_finish_0 : decode cX1_finish 0 = .ok (.aload_n 0, 1) := dk_42 (dk_at dksX1_finish_0 0 rfl rfl)
theorem dX1_finish_1 : decode cX1_finish 1 = .ok (.getfield 25, 3) := dk_180 0 25 (dk_at dksX1_finish_0 1 rfl rfl)
theorem dX1_finish_4 : decode cX1_finish 4 = .ok (.iconst 3, 1) := dk_6 (dk_at dksX1_finish_0 4 rfl rfl)
theorem dX1_finish_5 : decode cX1_finish 5 = .ok (.lshl, 1) := dk_121 (dk_at dksX1_finish_0 5 rfl rfl)
theorem dX1_finish_6 : decode cX1_finish 6 = .ok (.lstore_n 1, 1) := dk_64 (dk_at dksX1_finish_0 6 rfl rfl)
theorem dX1_finish_7 : decode cX1_finish 7 = .ok (.aload_n 0, 1) := dk_42 (dk_at dksX1_finish_0 7 rfl rfl)
theorem dX1_finish_8 : decode cX1_finish 8 = .ok (.bipush (-128), 2) := dk_16 128 (dk_at dksX1_finish_0 8 rfl rfl)
theorem dX1_finish_10 : decode cX1_finish 10 = .ok (.invokevirtual 35, 3) := dk_182 0 35 (dk_at dksX1_finish_0 10 rfl rfl)
theorem dX1_finish_13 : decode cX1_finish 13 = .ok (.aload_n 0, 1) := dk_42 (dk_at dksX1_finish_0 13 rfl rfl)
theorem dX1_finish_14 : decode cX1_finish 14 = .ok (.getfield 17, 3) := dk_180 0 17 (dk_at dksX1_finish_0 14 rfl rfl)
theorem dX1_finish_17 : decode cX1_finish 17 = .ok (.ifCond .eq 11, 3) := dk_153 0 11 (dk_at dksX1_finish_0 17 rfl rfl)
theorem dX1_finish_20 : decode cX1_finish 20 = .ok (.aload_n 0, 1) := dk_42 (dk_at dksX1_finish_0 20 rfl rfl)
theorem dX1_finish_21 : decode cX1_finish 21 = .ok (.iconst 0, 1) := dk_3 (dk_at dksX1_finish_0 21 rfl rfl)
theorem dX1_finish_22 : decode cX1_finish 22 = .ok (.invokevirtual 35, 3) := dk_182 0 35 (dk_at dksX1_finish_1 0 rfl rfl)
theorem dX1_finish_25 : decode cX1_finish 25 = .ok (.goto (-12), 3) := dk_167 255 244 (dk_at dksX1_finish_1 3 rfl rfl)
theorem dX1_finish_28 : decode cX1_finish 28 = .ok (.aload_n 0, 1) := dk_42 (dk_at dksX1_finish_1 6 rfl rfl)
theorem dX1_finish_29 : decode cX1_finish 29 = .ok (.lload_n 1, 1) := dk_31 (dk_at dksX1_finish_1 7 rfl rfl)
theorem dX1_finish_30 : decode cX1_finish 30 = .ok (.invokevirtual 39, 3) := dk_182 0 39 (dk_at dksX1_finish_1 8 rfl rfl)
theorem dX1_finish_33 : decode cX1_finish 33 = .ok (.aload_n 0, 1) := dk_42 (dk_at dksX1_finish_1 11 rfl rfl)
theorem dX1_finish_34 : decode cX1_finish 34 = .ok (.invokevirtual 43, 3) := dk_182 0 43 (dk_at dksX1_finish_1 12 rfl rfl)
theorem dX1_finish_37 : decode cX1_finish 37 = .ok (.return_, 1) := dk_177 (dk_at dksX1_finish_1 15 rfl rfl)
theorem q16 : (Jvm.Cond.initialized "GeneralDigest") ∈ lw_all := lw_g (lw_at lw_m1 2 rfl) rfl
theorem q42 : (Jvm.Cond.instanceMethod ({ cls := "GeneralDigest", name := "<init>", desc := "(LCryptoServicePurpose;)V" } : Jvm.MethodName)) ∈ lw_all := lw_g (lw_at lw_m1 28 rfl) rfl
theorem q43 : (Jvm.Cond.code ({ cls := "GeneralDigest", name := "<init>", desc := "(LCryptoServicePurpose;)V" } : Jvm.MethodName) prog_4_method_1_code (2 : Nat) (Option.none : Option Jvm.ClassFile.FieldType)) ∈ lw_all := lw_g (lw_at lw_m1 29 rfl) rfl
theorem q44 : (Jvm.Cond.methodLink "GeneralDigest" (1 : Nat) ({ cls := "java/lang/Object", name := "<init>", desc := "()V" } : Jvm.MethodName)) ∈ lw_all := lw_g (lw_at lw_m1 30 rfl) rfl
theorem q51 : (Jvm.Cond.instanceMethod ({ cls := "GeneralDigest", name := "reset", desc := "()V" } : Jvm.MethodName)) ∈ lw_all := lw_g (lw_at lw_m1 37 rfl) rfl
theorem q52 : (Jvm.Cond.code ({ cls := "GeneralDigest", name := "reset", desc := "()V" } : Jvm.MethodName) prog_4_method_5_code (2 : Nat) (Option.none : Option Jvm.ClassFile.FieldType)) ∈ lw_all := lw_g (lw_at lw_m1 38 rfl) rfl
theorem q65 : (Jvm.Cond.fieldLink "GeneralDigest" (13 : Nat) "GeneralDigest" "purpose" "LCryptoServicePurpose;") ∈ lw_all := lw_g (lw_at lw_m1 51 rfl) rfl
theorem q66 : (Jvm.Cond.fieldLink "GeneralDigest" (7 : Nat) "GeneralDigest" "xBuf" "[B") ∈ lw_all := lw_g (lw_at lw_m1 52 rfl) rfl
theorem q67 : (Jvm.Cond.fieldLink "GeneralDigest" (17 : Nat) "GeneralDigest" "xBufOff" "I") ∈ lw_all := lw_g (lw_at lw_m1 53 rfl) rfl
theorem q68 : (Jvm.Cond.fieldLink "GeneralDigest" (25 : Nat) "GeneralDigest" "byteCount" "J") ∈ lw_all := lw_g (lw_at lw_m1 54 rfl) rfl
theorem q78 : (Jvm.Cond.soleField "GeneralDigest" "purpose") ∈ lw_all := lw_g (lw_at lw_m1 64 rfl) rfl
theorem q80 : (Jvm.Cond.soleField "GeneralDigest" "xBuf") ∈ lw_all := lw_g (lw_at lw_m1 66 rfl) rfl
theorem q82 : (Jvm.Cond.soleField "GeneralDigest" "xBufOff") ∈ lw_all := lw_g (lw_at lw_m1 68 rfl) rfl
theorem q84 : (Jvm.Cond.soleField "GeneralDigest" "byteCount") ∈ lw_all := lw_g (lw_at lw_m1 70 rfl) rfl
theorem q139 : (Jvm.Cond.instanceMethod ({ cls := "GeneralDigest", name := "update", desc := "([BII)V" } : Jvm.MethodName)) ∈ lw_all := lw_g (lw_at lw_m1 125 rfl) rfl
theorem q140 : (Jvm.Cond.publicMethod ({ cls := "GeneralDigest", name := "update", desc := "([BII)V" } : Jvm.MethodName)) ∈ lw_tbl := lw_at lw_m1 126 rfl
theorem q141 : (Jvm.Cond.code ({ cls := "GeneralDigest", name := "update", desc := "([BII)V" } : Jvm.MethodName) prog_4_method_3_code (6 : Nat) (Option.none : Option Jvm.ClassFile.FieldType)) ∈ lw_all := lw_g (lw_at lw_m1 127 rfl) rfl
theorem q142 : (Jvm.Cond.methodLink "GeneralDigest" (29 : Nat) ({ cls := "java/lang/Math", name := "max", desc := "(II)I" } : Jvm.MethodName)) ∈ lw_all := lw_g (lw_at lw_m1 128 rfl) rfl
theorem q145 : (Jvm.Cond.methodLink "GeneralDigest" (21 : Nat) ({ cls := "GeneralDigest", name := "processWord", desc := "([BI)V" } : Jvm.MethodName)) ∈ lw_all := lw_g (lw_at lw_m1 131 rfl) rfl
theorem q146 : (Jvm.Cond.declares ({ cls := "GeneralDigest", name := "processWord", desc := "([BI)V" } : Jvm.MethodName)) ∈ lw_tbl := lw_at lw_m1 132 rfl
theorem q147 : (Jvm.Cond.sameMethod "GeneralDigest" "GeneralDigest" "processWord" "([BI)V") ∈ lw_all := lw_g (lw_at lw_m1 133 rfl) rfl
theorem q194 : (Jvm.Cond.instanceMethod ({ cls := "GeneralDigest", name := "update", desc := "(B)V" } : Jvm.MethodName)) ∈ lw_all := lw_g (lw_at lw_m1 180 rfl) rfl
theorem q195 : (Jvm.Cond.publicMethod ({ cls := "GeneralDigest", name := "update", desc := "(B)V" } : Jvm.MethodName)) ∈ lw_tbl := lw_at lw_m1 181 rfl
theorem q196 : (Jvm.Cond.code ({ cls := "GeneralDigest", name := "update", desc := "(B)V" } : Jvm.MethodName) prog_4_method_2_code (2 : Nat) (Option.none : Option Jvm.ClassFile.FieldType)) ∈ lw_all := lw_g (lw_at lw_m1 182 rfl) rfl
theorem q212 : (Jvm.Cond.declares ({ cls := "GeneralDigest", name := "finish", desc := "()V" } : Jvm.MethodName)) ∈ lw_tbl := lw_at lw_m1 198 rfl
theorem q214 : (Jvm.Cond.instanceMethod ({ cls := "GeneralDigest", name := "finish", desc := "()V" } : Jvm.MethodName)) ∈ lw_all := lw_g (lw_at lw_m1 200 rfl) rfl
theorem q215 : (Jvm.Cond.code ({ cls := "GeneralDigest", name := "finish", desc := "()V" } : Jvm.MethodName) prog_4_method_4_code (3 : Nat) (Option.none : Option Jvm.ClassFile.FieldType)) ∈ lw_all := lw_g (lw_at lw_m1 201 rfl) rfl
theorem q216 : (Jvm.Cond.methodLink "GeneralDigest" (35 : Nat) ({ cls := "GeneralDigest", name := "update", desc := "(B)V" } : Jvm.MethodName)) ∈ lw_all := lw_g (lw_at lw_m1 202 rfl) rfl
theorem q217 : (Jvm.Cond.methodLink "GeneralDigest" (39 : Nat) ({ cls := "GeneralDigest", name := "processLength", desc := "(J)V" } : Jvm.MethodName)) ∈ lw_all := lw_g (lw_at lw_m1 203 rfl) rfl
theorem q218 : (Jvm.Cond.declares ({ cls := "GeneralDigest", name := "processLength", desc := "(J)V" } : Jvm.MethodName)) ∈ lw_tbl := lw_at lw_m1 204 rfl
theorem q219 : (Jvm.Cond.sameMethod "GeneralDigest" "GeneralDigest" "processLength" "(J)V") ∈ lw_all := lw_g (lw_at lw_m1 205 rfl) rfl
theorem q223 : (Jvm.Cond.methodLink "GeneralDigest" (43 : Nat) ({ cls := "GeneralDigest", name := "processBlock", desc := "()V" } : Jvm.MethodName)) ∈ lw_all := lw_g (lw_at lw_m1 209 rfl) rfl
theorem q224 : (Jvm.Cond.declares ({ cls := "GeneralDigest", name := "processBlock", desc := "()V" } : Jvm.MethodName)) ∈ lw_tbl := lw_at lw_m1 210 rfl
theorem q225 : (Jvm.Cond.sameMethod "GeneralDigest" "GeneralDigest" "processBlock" "()V") ∈ lw_all := lw_g (lw_at lw_m1 211 rfl) rfl
theorem q356 : (Jvm.Cond.sameMethod "GeneralDigest" "GeneralDigest" "reset" "()V") ∈ lw_all := lw_g (lw_at lw_m2 102 rfl) rfl
theorem q357 : (Jvm.Cond.sameMethod "GeneralDigest" "GeneralDigest" "update" "(B)V") ∈ lw_all := lw_g (lw_at lw_m2 103 rfl) rfl
/-! Pack -/
set_option maxRecDepth 100000
def RX4 : String := "Pack"
abbrev cX4_bigEndianToInt : ByteArray := prog_5_method_2_code
def yX4_bigEndianToInt : MethodName := ⟨RX4, "bigEndianToInt", "([BI)I"⟩
def dkwX4_bigEndianToInt_2 : List UInt8 := [17, 0, 255, 126, 128, 61, 28, 172]
abbrev dktX4_bigEndianToInt_2 : List UInt8 := dkwX4_bigEndianToInt_2 ++ []
def dkwX4_bigEndianToInt_1 : List UInt8 := [42, 132, 1, 1, 27, 51, 17, 0, 255, 126, 16, 8, 120, 128, 61, 28, 42, 132, 1, 1, 27, 51]
abbrev dktX4_bigEndianToInt_1 : List UInt8 := dkwX4_bigEndianToInt_1 ++ dktX4_bigEndianToInt_2
def dkwX4_bigEndianToInt_0 : List UInt8 := [42, 27, 51, 16, 24, 120, 61, 28, 42, 132, 1, 1, 27, 51, 17, 0, 255, 126, 16, 16, 120, 128, 61, 28]
abbrev dktX4_bigEndianToInt_0 : List UInt8 := dkwX4_bigEndianToInt_0 ++ dktX4_bigEndianToInt_1
theorem dksX4_bigEndianToInt_0 : cX4_bigEndianToInt.data.toList.drop 0 = dktX4_bigEndianToInt_0 := by decide +kernel
theorem dksX4_bigEndianToInt_1 : cX4_bigEndianToInt.data.toList.drop 24 = dktX4_bigEndianToInt_1 := dk_seg dksX4_bigEndianToInt_0 24 rfl rfl
theorem dksX4_bigEndianToInt_2 : cX4_bigEndianToInt.data.toList.drop 46 = dktX4_bigEndianToInt_2 := dk_seg dksX4_bigEndianToInt_1 22 rfl rfl
theorem dX4_bigEndianToInt_0 : decode cX4_bigEndianToInt 0 = .ok (.aload_n 0, 1) := dk_42 (dk_at dksX4_bigEndianToInt_0 0 rfl rfl)
theorem dX4_bigEndianToInt_1 : decode cX4_bigEndianToInt 1 = .ok (.iload_n 1, 1) := dk_27 (dk_at dksX4_bigEndianToInt_0 1 rfl rfl)
theorem dX4_bigEndianToInt_2 : decode cX4_bigEndianToInt 2 = .ok (.baload, 1) := dk_51 (dk_at dksX4_bigEndianToInt_0 2 rfl rfl)
theorem dX4_bigEndianToInt_3 : decode cX4_bigEndianToInt 3 = .ok (.bipush 24, 2) := dk_16 24 (dk_at dksX4_bigEndianToInt_0 3 rfl rfl)
theorem dX4_bigEndianToInt_5 : decode cX4_bigEndianToInt 5 = .ok (.ishl, 1) := dk_120 (dk_at dksX4_bigEndianToInt_0 5 rfl rfl)
theorem dX4_bigEndianToInt_6 : decode cX4_bigEndianToInt 6 = .ok (.istore_n 2, 1) := dk_61 (dk_at dksX4_bigEndianToInt_0 6 rfl rfl)
theorem dX4_bigEndianToInt_7 : decode cX4_bigEndianToInt 7 = .ok (.iload_n 2, 1) := dk_28 (dk_at dksX4_bigEndianToInt_0 7 rfl rfl)
theorem dX4_bigEndianToInt_8 : decode cX4_bigEndianToInt 8 = .ok (.aload_n 0, 1) := dk_42 (dk_at dksX4_bigEndianToInt_0 8 rfl rfl)
theorem dX4_bigEndianToInt_9 : decode cX4_bigEndianToInt 9 = .ok (.iinc 1 1, 3) := dk_132 1 1 (dk_at dksX4_bigEndianToInt_0 9 rfl rfl)
theorem dX4_bigEndianToInt_12 : decode cX4_bigEndianToInt 12 = .ok (.iload_n 1, 1) := dk_27 (dk_at dksX4_bigEndianToInt_0 12 rfl rfl)
theorem dX4_bigEndianToInt_13 : decode cX4_bigEndianToInt 13 = .ok (.baload, 1) := dk_51 (dk_at dksX4_bigEndianToInt_0 13 rfl rfl)
theorem dX4_bigEndianToInt_14 : decode cX4_bigEndianToInt 14 = .ok (.sipush 255, 3) := dk_17 0 255 (dk_at dksX4_bigEndianToInt_0 14 rfl rfl)
theorem dX4_bigEndianToInt_17 : decode cX4_bigEndianToInt 17 = .ok (.iand, 1) := dk_126 (dk_at dksX4_bigEndianToInt_0 17 rfl rfl)
theorem dX4_bigEndianToInt_18 : decode cX4_bigEndianToInt 18 = .ok (.bipush 16, 2) := dk_16 16 (dk_at dksX4_bigEndianToInt_0 18 rfl rfl)
theorem dX4_bigEndianToInt_20 : decode cX4_bigEndianToInt 20 = .ok (.ishl, 1) := dk_120 (dk_at dksX4_bigEndianToInt_0 20 rfl rfl)
theorem dX4_bigEndianToInt_21 : decode cX4_bigEndianToInt 21 = .ok (.ior, 1) := dk_128 (dk_at dksX4_bigEndianToInt_0 21 rfl rfl)
theorem dX4_bigEndianToInt_22 : decode cX4_bigEndianToInt 22 = .ok (.istore_n 2, 1) := dk_61 (dk_at dksX4_bigEndianToInt_0 22 rfl rfl)
theorem dX4_bigEndianToInt_23 : decode cX4_bigEndianToInt 23 = .ok (.iload_n 2, 1) := dk_28 (dk_at dksX4_bigEndianToInt_0 23 rfl rfl)
theorem dX4_bigEndianToInt_24 : decode cX4_bigEndianToInt 24 = .ok (.aload_n 0, 1) := dk_42 (dk_at dksX4_bigEndianToInt_1 0 rfl rfl)
theorem dX4_bigEndianToInt_25 : decode cX4_bigEndianToInt 25 = .ok (.iinc 1 1, 3) := dk_132 1 1 (dk_at dksX4_bigEndianToInt_1 1 rfl rfl)
theorem dX4_bigEndianToInt_28 : decode cX4_bigEndianToInt 28 = .ok (.iload_n 1, 1) := dk_27 (dk_at dksX4_bigEndianToInt_1 4 rfl rfl)
theorem dX4_bigEndianToInt_29 : decode cX4_bigEndianToInt 29 = .ok (.baload, 1) := dk_51 (dk_at dksX4_bigEndianToInt_1 5 rfl rfl)
theorem dX4_bigEndianToInt_30 : decode cX4_bigEndianToInt 30 = .ok (.sipush 255, 3) := dk_17 0 255 (dk_at dksX4_bigEndianToInt_1 6 rfl rfl)
theorem dX4_bigEndianToInt_33 : decode cX4_bigEndianToInt 33 = .ok (.iand, 1) := dk_126 (dk_at dksX4_bigEndianToInt_1 9 rfl rfl)
theorem dX4_bigEndianToInt_34 : decode cX4_bigEndianToInt 34 = .ok (.bipush 8, 2) := dk_16 8 (dk_at dksX4_bigEndianToInt_1 10 rfl rfl)
theorem dX4_bigEndianToInt_36 : decode cX4_bigEndianToInt 36 = .ok (.ishl, 1) := dk_120 (dk_at dksX4_bigEndianToInt_1 12 rfl rfl)
theorem dX4_bigEndianToInt_37 : decode cX4_bigEndianToInt 37 = .ok (.ior, 1) := dk_128 (dk_at dksX4_bigEndianToInt_1 13 rfl rfl)
theorem dX4_bigEndianToInt_38 : decode cX4_bigEndianToInt 38 = .ok (.istore_n 2, 1) := dk_61 (dk_at dksX4_bigEndianToInt_1 14 rfl rfl)
theorem dX4_bigEndianToInt_39 : decode cX4_bigEndianToInt 39 = .ok (.iload_n 2, 1) := dk_28 (dk_at dksX4_bigEndianToInt_1 15 rfl rfl)
theorem dX4_bigEndianToInt_40 : decode cX4_bigEndianToInt 40 = .ok (.aload_n 0, 1) := dk_42 (dk_at dksX4_bigEndianToInt_1 16 rfl rfl)
theorem dX4_bigEndianToInt_41 : decode cX4_bigEndianToInt 41 = .ok (.iinc 1 1, 3) := dk_132 1 1 (dk_at dksX4_bigEndianToInt_1 17 rfl rfl)
theorem dX4_bigEndianToInt_44 : decode cX4_bigEndianToInt 44 = .ok (.iload_n 1, 1) := dk_27 (dk_at dksX4_bigEndianToInt_1 20 rfl rfl)
theorem dX4_bigEndianToInt_45 : decode cX4_bigEndianToInt 45 = .ok (.baload, 1) := dk_51 (dk_at dksX4_bigEndianToInt_1 21 rfl rfl)
theorem dX4_bigEndianToInt_46 : decode cX4_bigEndianToInt 46 = .ok (.sipush 255, 3) := dk_17 0 255 (dk_at dksX4_bigEndianToInt_2 0 rfl rfl)
theorem dX4_bigEndianToInt_49 : decode cX4_bigEndianToInt 49 = .ok (.iand, 1) := dk_126 (dk_at dksX4_bigEndianToInt_2 3 rfl rfl)
theorem dX4_bigEndianToInt_50 : decode cX4_bigEndianToInt 50 = .ok (.ior, 1) := dk_128 (dk_at dksX4_bigEndianToInt_2 4 rfl rfl)
theorem dX4_bigEndianToInt_51 : decode cX4_bigEndianToInt 51 = .ok (.istore_n 2, 1) := dk_61 (dk_at dksX4_bigEndianToInt_2 5 rfl rfl)
theorem dX4_bigEndianToInt_52 : decode cX4_bigEndianToInt 52 = .ok (.iload_n 2, 1) := dk_28 (dk_at dksX4_bigEndianToInt_2 6 rfl rfl)
theorem dX4_bigEndianToInt_53 : decode cX4_bigEndianToInt 53 = .ok (.ireturn, 1) := dk_172 (dk_at dksX4_bigEndianToInt_2 7 rfl rfl)
abbrev cX4_intToBigEndian : ByteArray := prog_5_method_4_code
def yX4_intToBigEndian : MethodName := ⟨RX4, "intToBigEndian", "([I[BI)V"⟩
def dkwX4_intToBigEndian_1 : List UInt8 := [167, 255, 236, 177]
abbrev dktX4_intToBigEndian_1 : List UInt8 := dkwX4_intToBigEndian_1 ++ []
def dkwX4_intToBigEndian_0 : List UInt8 := [3, 62, 29, 42, 190, 162, 0, 20, 42, 29, 46, 43, 28, 184, 0, 7, 132, 2, 4, 132, 3, 1]
abbrev dktX4_intToBigEndian_0 : List UInt8 := dkwX4_intToBigEndian_0 ++ dktX4_intToBigEndian_1
theorem dksX4_intToBigEndian_0 : cX4_intToBigEndian.data.toList.drop 0 = dktX4_intToBigEndian_0 := by decide +kernel
theorem dksX4_intToBigEndian_1 : cX4_intToBigEndian.data.toList.drop 22 = dktX4_intToBigEndian_1 := dk_seg dksX4_intToBigEndian_0 22 rfl rfl
theorem dX4_intToBigEndian_0 : decode cX4_intToBigEndian 0 = .ok (.iconst 0, 1) := dk_3 (dk_at dksX4_intToBigEndian_0 0 rfl rfl)
theorem dX4_intToBigEndian_1 : decode cX4_intToBigEndian 1 = .ok (.istore_n 3, 1) := dk_62 (dk_at dksX4_intToBigEndian_0 1 rfl rfl)
theorem dX4_intToBigEndian_2 : decode cX4_intToBigEndian 2 = .ok (.iload_n 3, 1) := dk_29 (dk_at dksX4_intToBigEndian_0 2 rfl rfl)
theorem dX4_intToBigEndian_3 : decode cX4_intToBigEndian 3 = .ok (.aload_n 0, 1) := dk_42 (dk_at dksX4_intToBigEndian_0 3 rfl rfl)
theorem dX4_intToBigEndian_4 : decode cX4_intToBigEndian 4 = .ok (.arraylength, 1) := dk_190 (dk_at dksX4_intToBigEndian_0 4 rfl rfl)
theorem dX4_intToBigEndian_5 : decode cX4_intToBigEndian 5 = .ok (.if_icmp .ge 20, 3) := dk_162 0 20 (dk_at dksX4_intToBigEndian_0 5 rfl rfl)
theorem dX4_intToBigEndian_8 : decode cX4_intToBigEndian 8 = .ok (.aload_n 0, 1) := dk_42 (dk_at dksX4_intToBigEndian_0 8 rfl rfl)
theorem dX4_intToBigEndian_9 : decode cX4_intToBigEndian 9 = .ok (.iload_n 3, 1) := dk_29 (dk_at dksX4_intToBigEndian_0 9 rfl rfl)
theorem dX4_intToBigEndian_10 : decode cX4_intToBigEndian 10 = .ok (.iaload, 1) := dk_46 (dk_at dksX4_intToBigEndian_0 10 rfl rfl)
theorem dX4_intToBigEndian_11 : decode cX4_intToBigEndian 11 = .ok (.aload_n 1, 1) := dk_43 (dk_at dksX4_intToBigEndian_0 11 rfl rfl)
theorem dX4_intToBigEndian_12 : decode cX4_intToBigEndian 12 = .ok (.iload_n 2, 1) := dk_28 (dk_at dksX4_intToBigEndian_0 12 rfl rfl)
theorem dX4_intToBigEndian_13 : decode cX4_intToBigEndian 13 = .ok (.invokestatic 7, 3) := dk_184 0 7 (dk_at dksX4_intToBigEndian_0 13 rfl rfl)
theorem dX4_intToBigEndian_16 : decode cX4_intToBigEndian 16 = .ok (.iinc 2 4, 3) := dk_132 2 4 (dk_at dksX4_intToBigEndian_0 16 rfl rfl)
theorem dX4_intToBigEndian_19 : decode cX4_intToBigEndian 19 = .ok (.iinc 3 1, 3) := dk_132 3 1 (dk_at dksX4_intToBigEndian_0 19 rfl rfl)
theorem dX4_intToBigEndian_22 : decode cX4_intToBigEndian 22 = .ok (.goto (-20), 3) := dk_167 255 236 (dk_at dksX4_intToBigEndian_1 0 rfl rfl)
theorem dX4_intToBigEndian_25 : decode cX4_intToBigEndian 25 = .ok (.return_, 1) := dk_177 (dk_at dksX4_intToBigEndian_1 3 rfl rfl)
abbrev cX4_intToBigEndian_2 : ByteArray := prog_5_method_3_code
def yX4_intToBigEndian_2 : MethodName := ⟨RX4, "intToBigEndian", "(I[BI)V"⟩
def dkwX4_intToBigEndian_2_1 : List UInt8 := [26, 16, 8, 124, 145, 84, 43, 132, 2, 1, 28, 26, 145, 84, 177]
abbrev dktX4_intToBigEndian_2_1 : List UInt8 := dkwX4_intToBigEndian_2_1 ++ []
def dkwX4_intToBigEndian_2_0 : List UInt8 := [43, 28, 26, 16, 24, 124, 145, 84, 43, 132, 2, 1, 28, 26, 16, 16, 124, 145, 84, 43, 132, 2, 1, 28]
abbrev dktX4_intToBigEndian_2_0 : List UInt8 := dkwX4_intToBigEndian_2_0 ++ dktX4_intToBigEndian_2_1
theorem dksX4_intToBigEndian_2_0 : cX4_intToBigEndian_2.data.toList.drop 0 = dktX4_intToBigEndian_2_0 := by decide +kernel
theorem dksX4_intToBigEndian_2_1 : cX4_intToBigEndian_2.data.toList.drop 24 = dktX4_intToBigEndian_2_1 := dk_seg dksX4_intToBigEndian_2_0 24 rfl rfl
theorem dX4_intToBigEndian_2_0 : decode cX4_intToBigEndian_2 0 = .ok (.aload_n 1, 1) := dk_43 (dk_at dksX4_intToBigEndian_2_0 0 rfl rfl)
theorem dX4_intToBigEndian_2_1 : decode cX4_intToBigEndian_2 1 = .ok (.iload_n 2, 1) := dk_28 (dk_at dksX4_intToBigEndian_2_0 1 rfl rfl)
theorem dX4_intToBigEndian_2_2 : decode cX4_intToBigEndian_2 2 = .ok (.iload_n 0, 1) := dk_26 (dk_at dksX4_intToBigEndian_2_0 2 rfl rfl)
theorem dX4_intToBigEndian_2_3 : decode cX4_intToBigEndian_2 3 = .ok (.bipush 24, 2) := dk_16 24 (dk_at dksX4_intToBigEndian_2_0 3 rfl rfl)
theorem dX4_intToBigEndian_2_5 : decode cX4_intToBigEndian_2 5 = .ok (.iushr, 1) := dk_124 (dk_at dksX4_intToBigEndian_2_0 5 rfl rfl)
theorem dX4_intToBigEndian_2_6 : decode cX4_intToBigEndian_2 6 = .ok (.i2b, 1) := dk_145 (dk_at dksX4_intToBigEndian_2_0 6 rfl rfl)
theorem dX4_intToBigEndian_2_7 : decode cX4_intToBigEndian_2 7 = .ok (.bastore, 1) := dk_84 (dk_at dksX4_intToBigEndian_2_0 7 rfl rfl)
theorem dX4_intToBigEndian_2_8 : decode cX4_intToBigEndian_2 8 = .ok (.aload_n 1, 1) := dk_43 (dk_at dksX4_intToBigEndian_2_0 8 rfl rfl)
theorem dX4_intToBigEndian_2_9 : decode cX4_intToBigEndian_2 9 = .ok (.iinc 2 1, 3) := dk_132 2 1 (dk_at dksX4_intToBigEndian_2_0 9 rfl rfl)
theorem dX4_intToBigEndian_2_12 : decode cX4_intToBigEndian_2 12 = .ok (.iload_n 2, 1) := dk_28 (dk_at dksX4_intToBigEndian_2_0 12 rfl rfl)
theorem dX4_intToBigEndian_2_13 : decode cX4_intToBigEndian_2 13 = .ok (.iload_n 0, 1) := dk_26 (dk_at dksX4_intToBigEndian_2_0 13 rfl rfl)
theorem dX4_intToBigEndian_2_14 : decode cX4_intToBigEndian_2 14 = .ok (.bipush 16, 2) := dk_16 16 (dk_at dksX4_intToBigEndian_2_0 14 rfl rfl)
theorem dX4_intToBigEndian_2_16 : decode cX4_intToBigEndian_2 16 = .ok (.iushr, 1) := dk_124 (dk_at dksX4_intToBigEndian_2_0 16 rfl rfl)
theorem dX4_intToBigEndian_2_17 : decode cX4_intToBigEndian_2 17 = .ok (.i2b, 1) := dk_145 (dk_at dksX4_intToBigEndian_2_0 17 rfl rfl)
theorem dX4_intToBigEndian_2_18 : decode cX4_intToBigEndian_2 18 = .ok (.bastore, 1) := dk_84 (dk_at dksX4_intToBigEndian_2_0 18 rfl rfl)
theorem dX4_intToBigEndian_2_19 : decode cX4_intToBigEndian_2 19 = .ok (.aload_n 1, 1) := dk_43 (dk_at dksX4_intToBigEndian_2_0 19 rfl rfl)
theorem dX4_intToBigEndian_2_20 : decode cX4_intToBigEndian_2 20 = .ok (.iinc 2 1, 3) := dk_132 2 1 (dk_at dksX4_intToBigEndian_2_0 20 rfl rfl)
theorem dX4_intToBigEndian_2_23 : decode cX4_intToBigEndian_2 23 = .ok (.iload_n 2, 1) := dk_28 (dk_at dksX4_intToBigEndian_2_0 23 rfl rfl)
theorem dX4_intToBigEndian_2_24 : decode cX4_intToBigEndian_2 24 = .ok (.iload_n 0, 1) := dk_26 (dk_at dksX4_intToBigEndian_2_1 0 rfl rfl)
theorem dX4_intToBigEndian_2_25 : decode cX4_intToBigEndian_2 25 = .ok (.bipush 8, 2) := dk_16 8 (dk_at dksX4_intToBigEndian_2_1 1 rfl rfl)
theorem dX4_intToBigEndian_2_27 : decode cX4_intToBigEndian_2 27 = .ok (.iushr, 1) := dk_124 (dk_at dksX4_intToBigEndian_2_1 3 rfl rfl)
theorem dX4_intToBigEndian_2_28 : decode cX4_intToBigEndian_2 28 = .ok (.i2b, 1) := dk_145 (dk_at dksX4_intToBigEndian_2_1 4 rfl rfl)
theorem dX4_intToBigEndian_2_29 : decode cX4_intToBigEndian_2 29 = .ok (.bastore, 1) := dk_84 (dk_at dksX4_intToBigEndian_2_1 5 rfl rfl)
theorem dX4_intToBigEndian_2_30 : decode cX4_intToBigEndian_2 30 = .ok (.aload_n 1, 1) := dk_43 (dk_at dksX4_intToBigEndian_2_1 6 rfl rfl)
theorem dX4_intToBigEndian_2_31 : decode cX4_intToBigEndian_2 31 = .ok (.iinc 2 1, 3) := dk_132 2 1 (dk_at dksX4_intToBigEndian_2_1 7 rfl rfl)
theorem dX4_intToBigEndian_2_34 : decode cX4_intToBigEndian_2 34 = .ok (.iload_n 2, 1) := dk_28 (dk_at dksX4_intToBigEndian_2_1 10 rfl rfl)
theorem dX4_intToBigEndian_2_35 : decode cX4_intToBigEndian_2 35 = .ok (.iload_n 0, 1) := dk_26 (dk_at dksX4_intToBigEndian_2_1 11 rfl rfl)
theorem dX4_intToBigEndian_2_36 : decode cX4_intToBigEndian_2 36 = .ok (.i2b, 1) := dk_145 (dk_at dksX4_intToBigEndian_2_1 12 rfl rfl)
theorem dX4_intToBigEndian_2_37 : decode cX4_intToBigEndian_2 37 = .ok (.bastore, 1) := dk_84 (dk_at dksX4_intToBigEndian_2_1 13 rfl rfl)
theorem dX4_intToBigEndian_2_38 : decode cX4_intToBigEndian_2 38 = .ok (.return_, 1) := dk_177 (dk_at dksX4_intToBigEndian_2_1 14 rfl rfl)
theorem q22 : (Jvm.Cond.initialized "Pack") ∈ lw_all := lw_g (lw_at lw_m1 8 rfl) rfl
theorem q152 : (Jvm.Cond.static ({ cls := "Pack", name := "bigEndianToInt", desc := "([BI)I" } : Jvm.MethodName)) ∈ lw_all := lw_g (lw_at lw_m1 138 rfl) rfl
theorem q153 : (Jvm.Cond.code ({ cls := "Pack", name := "bigEndianToInt", desc := "([BI)I" } : Jvm.MethodName) prog_5_method_2_code (3 : Nat) (Option.some Jvm.ClassFile.FieldType.int)) ∈ lw_all := lw_g (lw_at lw_m1 139 rfl) rfl
theorem q228 : (Jvm.Cond.static ({ cls := "Pack", name := "intToBigEndian", desc := "([I[BI)V" } : Jvm.MethodName)) ∈ lw_all := lw_g (lw_at lw_m1 214 rfl) rfl
theorem q229 : (Jvm.Cond.code ({ cls := "Pack", name := "intToBigEndian", desc := "([I[BI)V" } : Jvm.MethodName) prog_5_method_4_code (4 : Nat) (Option.none : Option Jvm.ClassFile.FieldType)) ∈ lw_all := lw_g (lw_at lw_m1 215 rfl) rfl
theorem q230 : (Jvm.Cond.methodLink "Pack" (7 : Nat) ({ cls := "Pack", name := "intToBigEndian", desc := "(I[BI)V" } : Jvm.MethodName)) ∈ lw_all := lw_g (lw_at lw_m1 216 rfl) rfl
theorem q231 : (Jvm.Cond.static ({ cls := "Pack", name := "intToBigEndian", desc := "(I[BI)V" } : Jvm.MethodName)) ∈ lw_all := lw_g (lw_at lw_m1 217 rfl) rfl
theorem q232 : (Jvm.Cond.code ({ cls := "Pack", name := "intToBigEndian", desc := "(I[BI)V" } : Jvm.MethodName) prog_5_method_3_code (3 : Nat) (Option.none : Option Jvm.ClassFile.FieldType)) ∈ lw_all := lw_g (lw_at lw_m1 218 rfl) rfl
end
section
/-! SM3Digest -/
set_option maxRecDepth 100000
def RX2 : String := "SM3Digest"
def TX2 : u_T := fun k => match k with
  | 0 => ("GeneralDigest", "purpose", "LCryptoServicePurpose;", true)
  | 1 => ("GeneralDigest", "xBuf", "[B", true)
  | 2 => ("GeneralDigest", "xBufOff", "I", false)
  | 3 => ("GeneralDigest", "byteCount", "J", false)
  | 4 => ("SM3Digest", "V", "[I", false)
  | 5 => ("SM3Digest", "inwords", "[I", false)
  | 6 => ("SM3Digest", "xOff", "I", false)
  | _ => ("SM3Digest", "W", "[I", false)
def tyX2 : Nat → FieldType := fun k => match k with
  | 0 => .object "CryptoServicePurpose"
  | 1 => .array .byte
  | 2 => .int
  | 3 => .long
  | 4 => .array .int
  | 5 => .array .int
  | 6 => .int
  | _ => .array .int
abbrev wsX20 : List Cond := u_ws RX2 TX2 8
theorem nmX2 : ∀ a, a < 8 → ∀ b, b < 8 → a ≠ b → (TX2 a).2.1 ≠ (TX2 b).2.1 := by decide +kernel
theorem tyX2_ok : ∀ k, k < 8 → parseFieldDescriptor (TX2 k).2.2.1 = some (tyX2 k) := by decide +kernel
abbrev cX2_init : ByteArray := prog_6_method_1_code
def yX2_init : MethodName := ⟨RX2, "<init>", "()V"⟩
def dkwX2_init_0 : List UInt8 := [42, 178, 0, 1, 183, 0, 7, 177]
abbrev dktX2_init_0 : List UInt8 := dkwX2_init_0 ++ []
theorem dksX2_init_0 : cX2_init.data.toList.drop 0 = dktX2_init_0 := by decide +kernel
theorem dX2_init_0 : decode cX2_init 0 = .ok (.aload_n 0, 1) := dk_42 (dk_at dksX2_init_0 0 rfl rfl)
theorem dX2_init_1 : decode cX2_init 1 = .ok (.getstatic 1, 3) := dk_178 0 1 (dk_at dksX2_init_0 1 rfl rfl)
theorem dX2_init_4 : decode cX2_init 4 = .ok (.invokespecial 7, 3) := dk_183 0 7 (dk_at dksX2_init_0 4 rfl rfl)
theorem dX2_init_7 : decode cX2_init 7 = .ok (.return_, 1) := dk_177 (dk_at dksX2_init_0 7 rfl rfl)
abbrev cX2_init_2 : ByteArray := prog_6_method_2_code
def yX2_init_2 : MethodName := ⟨RX2, "<init>", "(LCryptoServicePurpose;)V"⟩
def dkwX2_init_2_1 : List UInt8 := [188, 10, 181, 0, 23, 42, 182, 0, 26, 177]
abbrev dktX2_init_2_1 : List UInt8 := dkwX2_init_2_1 ++ []
def dkwX2_init_2_0 : List UInt8 := [42, 43, 183, 0, 13, 42, 16, 8, 188, 10, 181, 0, 16, 42, 16, 16, 188, 10, 181, 0, 20, 42, 16, 68]
abbrev dktX2_init_2_0 : List UInt8 := dkwX2_init_2_0 ++ dktX2_init_2_1
theorem dksX2_init_2_0 : cX2_init_2.data.toList.drop 0 = dktX2_init_2_0 := by decide +kernel
theorem dksX2_init_2_1 : cX2_init_2.data.toList.drop 24 = dktX2_init_2_1 := dk_seg dksX2_init_2_0 24 rfl rfl
theorem dX2_init_2_0 : decode cX2_init_2 0 = .ok (.aload_n 0, 1) := dk_42 (dk_at dksX2_init_2_0 0 rfl rfl)
theorem dX2_init_2_1 : decode cX2_init_2 1 = .ok (.aload_n 1, 1) := dk_43 (dk_at dksX2_init_2_0 1 rfl rfl)
theorem dX2_init_2_2 : decode cX2_init_2 2 = .ok (.invokespecial 13, 3) := dk_183 0 13 (dk_at dksX2_init_2_0 2 rfl rfl)
theorem dX2_init_2_5 : decode cX2_init_2 5 = .ok (.aload_n 0, 1) := dk_42 (dk_at dksX2_init_2_0 5 rfl rfl)
theorem dX2_init_2_6 : decode cX2_init_2 6 = .ok (.bipush 8, 2) := dk_16 8 (dk_at dksX2_init_2_0 6 rfl rfl)
theorem dX2_init_2_8 : decode cX2_init_2 8 = .ok (.newarray .int, 2) := dk_188_10 (dk_at dksX2_init_2_0 8 rfl rfl)
theorem dX2_init_2_10 : decode cX2_init_2 10 = .ok (.putfield 16, 3) := dk_181 0 16 (dk_at dksX2_init_2_0 10 rfl rfl)
theorem dX2_init_2_13 : decode cX2_init_2 13 = .ok (.aload_n 0, 1) := dk_42 (dk_at dksX2_init_2_0 13 rfl rfl)
theorem dX2_init_2_14 : decode cX2_init_2 14 = .ok (.bipush 16, 2) := dk_16 16 (dk_at dksX2_init_2_0 14 rfl rfl)
theorem dX2_init_2_16 : decode cX2_init_2 16 = .ok (.newarray .int, 2) := dk_188_10 (dk_at dksX2_init_2_0 16 rfl rfl)
theorem dX2_init_2_18 : decode cX2_init_2 18 = .ok (.putfield 20, 3) := dk_181 0 20 (dk_at dksX2_init_2_0 18 rfl rfl)
theorem dX2_init_2_21 : decode cX2_init_2 21 = .ok (.aload_n 0, 1) := dk_42 (dk_at dksX2_init_2_0 21 rfl rfl)
theorem dX2_init_2_22 : decode cX2_init_2 22 = .ok (.bipush 68, 2) := dk_16 68 (dk_at dksX2_init_2_0 22 rfl rfl)
theorem dX2_init_2_24 : decode cX2_init_2 24 = .ok (.newarray .int, 2) := dk_188_10 (dk_at dksX2_init_2_1 0 rfl rfl)
theorem dX2_init_2_26 : decode cX2_init_2 26 = .ok (.putfield 23, 3) := dk_181 0 23 (dk_at dksX2_init_2_1 2 rfl rfl)
theorem dX2_init_2_29 : decode cX2_init_2 29 = .ok (.aload_n 0, 1) := dk_42 (dk_at dksX2_init_2_1 5 rfl rfl)
theorem dX2_init_2_30 : decode cX2_init_2 30 = .ok (.invokevirtual 26, 3) := dk_182 0 26 (dk_at dksX2_init_2_1 6 rfl rfl)
theorem dX2_init_2_33 : decode cX2_init_2 33 = .ok (.return_, 1) := dk_177 (dk_at dksX2_init_2_1 9 rfl rfl)
abbrev cX2_reset : ByteArray := prog_6_method_3_code
def yX2_reset : MethodName := ⟨RX2, "reset", "()V"⟩
def dkwX2_reset_3 : List UInt8 := [181, 0, 39, 177]
abbrev dktX2_reset_3 : List UInt8 := dkwX2_reset_3 ++ []
def dkwX2_reset_2 : List UInt8 := [8, 18, 36, 79, 42, 180, 0, 16, 16, 6, 18, 37, 79, 42, 180, 0, 16, 16, 7, 18, 38, 79, 42, 3]
abbrev dktX2_reset_2 : List UInt8 := dkwX2_reset_2 ++ dktX2_reset_3
def dkwX2_reset_1 : List UInt8 := [5, 18, 33, 79, 42, 180, 0, 16, 6, 18, 34, 79, 42, 180, 0, 16, 7, 18, 35, 79, 42, 180, 0, 16]
abbrev dktX2_reset_1 : List UInt8 := dkwX2_reset_1 ++ dktX2_reset_2
def dkwX2_reset_0 : List UInt8 := [42, 183, 0, 30, 42, 180, 0, 16, 3, 18, 31, 79, 42, 180, 0, 16, 4, 18, 32, 79, 42, 180, 0, 16]
abbrev dktX2_reset_0 : List UInt8 := dkwX2_reset_0 ++ dktX2_reset_1
theorem dksX2_reset_0 : cX2_reset.data.toList.drop 0 = dktX2_reset_0 := by decide +kernel
theorem dksX2_reset_1 : cX2_reset.data.toList.drop 24 = dktX2_reset_1 := dk_seg dksX2_reset_0 24 rfl rfl
theorem dksX2_reset_2 : cX2_reset.data.toList.drop 48 = dktX2_reset_2 := dk_seg dksX2_reset_1 24 rfl rfl
theorem dksX2_reset_3 : cX2_reset.data.toList.drop 72 = dktX2_reset_3 := dk_seg dksX2_reset_2 24 rfl rfl
theorem dX2_reset_0 : decode cX2_reset 0 = .ok (.aload_n 0, 1) := dk_42 (dk_at dksX2_reset_0 0 rfl rfl)
theorem dX2_reset_1 : decode cX2_reset 1 = .ok (.invokespecial 30, 3) := dk_183 0 30 (dk_at dksX2_reset_0 1 rfl rfl)
theorem dX2_reset_4 : decode cX2_reset 4 = .ok (.aload_n 0, 1) := dk_42 (dk_at dksX2_reset_0 4 rfl rfl)
theorem dX2_reset_5 : decode cX2_reset 5 = .ok (.getfield 16, 3) := dk_180 0 16 (dk_at dksX2_reset_0 5 rfl rfl)
theorem dX2_reset_8 : decode cX2_reset 8 = .ok (.iconst 0, 1) := dk_3 (dk_at dksX2_reset_0 8 rfl rfl)
theorem dX2_reset_9 : decode cX2_reset 9 = .ok (.ldc 31, 2) := dk_18 31 (dk_at dksX2_reset_0 9 rfl rfl)
theorem dX2_reset_11 : decode cX2_reset 11 = .ok (.iastore, 1) := dk_79 (dk_at dksX2_reset_0 11 rfl rfl)
theorem dX2_reset_12 : decode cX2_reset 12 = .ok (.aload_n 0, 1) := dk_42 (dk_at dksX2_reset_0 12 rfl rfl)
theorem dX2_reset_13 : decode cX2_reset 13 = .ok (.getfield 16, 3) := dk_180 0 16 (dk_at dksX2_reset_0 13 rfl rfl)
theorem dX2_reset_16 : decode cX2_reset 16 = .ok (.iconst 1, 1) := dk_4 (dk_at dksX2_reset_0 16 rfl rfl)
theorem dX2_reset_17 : decode cX2_reset 17 = .ok (.ldc 32, 2) := dk_18 32 (dk_at dksX2_reset_0 17 rfl rfl)
theorem dX2_reset_19 : decode cX2_reset 19 = .ok (.iastore, 1) := dk_79 (dk_at dksX2_reset_0 19 rfl rfl)
theorem dX2_reset_20 : decode cX2_reset 20 = .ok (.aload_n 0, 1) := dk_42 (dk_at dksX2_reset_0 20 rfl rfl)
theorem dX2_reset_21 : decode cX2_reset 21 = .ok (.getfield 16, 3) := dk_180 0 16 (dk_at dksX2_reset_0 21 rfl rfl)
theorem dX2_reset_24 : decode cX2_reset 24 = .ok (.iconst 2, 1) := dk_5 (dk_at dksX2_reset_1 0 rfl rfl)
theorem dX2_reset_25 : decode cX2_reset 25 = .ok (.ldc 33, 2) := dk_18 33 (dk_at dksX2_reset_1 1 rfl rfl)
theorem dX2_reset_27 : decode cX2_reset 27 = .ok (.iastore, 1) := dk_79 (dk_at dksX2_reset_1 3 rfl rfl)
theorem dX2_reset_28 : decode cX2_reset 28 = .ok (.aload_n 0, 1) := dk_42 (dk_at dksX2_reset_1 4 rfl rfl)
theorem dX2_reset_29 : decode cX2_reset 29 = .ok (.getfield 16, 3) := dk_180 0 16 (dk_at dksX2_reset_1 5 rfl rfl)
theorem dX2_reset_32 : decode cX2_reset 32 = .ok (.iconst 3, 1) := dk_6 (dk_at dksX2_reset_1 8 rfl rfl)
theorem dX2_reset_33 : decode cX2_reset 33 = .ok (.ldc 34, 2) := dk_18 34 (dk_at dksX2_reset_1 9 rfl rfl)
theorem dX2_reset_35 : decode cX2_reset 35 = .ok (.iastore, 1) := dk_79 (dk_at dksX2_reset_1 11 rfl rfl)
theorem dX2_reset_36 : decode cX2_reset 36 = .ok (.aload_n 0, 1) := dk_42 (dk_at dksX2_reset_1 12 rfl rfl)
theorem dX2_reset_37 : decode cX2_reset 37 = .ok (.getfield 16, 3) := dk_180 0 16 (dk_at dksX2_reset_1 13 rfl rfl)
theorem dX2_reset_40 : decode cX2_reset 40 = .ok (.iconst 4, 1) := dk_7 (dk_at dksX2_reset_1 16 rfl rfl)
theorem dX2_reset_41 : decode cX2_reset 41 = .ok (.ldc 35, 2) := dk_18 35 (dk_at dksX2_reset_1 17 rfl rfl)
theorem dX2_reset_43 : decode cX2_reset 43 = .ok (.iastore, 1) := dk_79 (dk_at dksX2_reset_1 19 rfl rfl)
theorem dX2_reset_44 : decode cX2_reset 44 = .ok (.aload_n 0, 1) := dk_42 (dk_at dksX2_reset_1 20 rfl rfl)
theorem dX2_reset_45 : decode cX2_reset 45 = .ok (.getfield 16, 3) := dk_180 0 16 (dk_at dksX2_reset_1 21 rfl rfl)
theorem dX2_reset_48 : decode cX2_reset 48 = .ok (.iconst 5, 1) := dk_8 (dk_at dksX2_reset_2 0 rfl rfl)
theorem dX2_reset_49 : decode cX2_reset 49 = .ok (.ldc 36, 2) := dk_18 36 (dk_at dksX2_reset_2 1 rfl rfl)
theorem dX2_reset_51 : decode cX2_reset 51 = .ok (.iastore, 1) := dk_79 (dk_at dksX2_reset_2 3 rfl rfl)
theorem dX2_reset_52 : decode cX2_reset 52 = .ok (.aload_n 0, 1) := dk_42 (dk_at dksX2_reset_2 4 rfl rfl)
theorem dX2_reset_53 : decode cX2_reset 53 = .ok (.getfield 16, 3) := dk_180 0 16 (dk_at dksX2_reset_2 5 rfl rfl)
theorem dX2_reset_56 : decode cX2_reset 56 = .ok (.bipush 6, 2) := dk_16 6 (dk_at dksX2_reset_2 8 rfl rfl)
theorem dX2_reset_58 : decode cX2_reset 58 = .ok (.ldc 37, 2) := dk_18 37 (dk_at dksX2_reset_2 10 rfl rfl)
theorem dX2_reset_60 : decode cX2_reset 60 = .ok (.iastore, 1) := dk_79 (dk_at dksX2_reset_2 12 rfl rfl)
theorem dX2_reset_61 : decode cX2_reset 61 = .ok (.aload_n 0, 1) := dk_42 (dk_at dksX2_reset_2 13 rfl rfl)
theorem dX2_reset_62 : decode cX2_reset 62 = .ok (.getfield 16, 3) := dk_180 0 16 (dk_at dksX2_reset_2 14 rfl rfl)
theorem dX2_reset_65 : decode cX2_reset 65 = .ok (.bipush 7, 2) := dk_16 7 (dk_at dksX2_reset_2 17 rfl rfl)
theorem dX2_reset_67 : decode cX2_reset 67 = .ok (.ldc 38, 2) := dk_18 38 (dk_at dksX2_reset_2 19 rfl rfl)
theorem dX2_reset_69 : decode cX2_reset 69 = .ok (.iastore, 1) := dk_79 (dk_at dksX2_reset_2 21 rfl rfl)
theorem dX2_reset_70 : decode cX2_reset 70 = .ok (.aload_n 0, 1) := dk_42 (dk_at dksX2_reset_2 22 rfl rfl)
theorem dX2_reset_71 : decode cX2_reset 71 = .ok (.iconst 0, 1) := dk_3 (dk_at dksX2_reset_2 23 rfl rfl)
theorem dX2_reset_72 : decode cX2_reset 72 = .ok (.putfield 39, 3) := dk_181 0 39 (dk_at dksX2_reset_3 0 rfl rfl)
theorem dX2_reset_75 : decode cX2_reset 75 = .ok (.return_, 1) := dk_177 (dk_at dksX2_reset_3 3 rfl rfl)
abbrev cX2_processWord : ByteArray := prog_6_method_5_code
def yX2_processWord : MethodName := ⟨RX2, "processWord", "([BI)V"⟩
def dkwX2_processWord_1 : List UInt8 := [180, 0, 39, 16, 16, 161, 0, 7, 42, 182, 0, 56, 177]
abbrev dktX2_processWord_1 : List UInt8 := dkwX2_processWord_1 ++ []
def dkwX2_processWord_0 : List UInt8 := [42, 180, 0, 20, 42, 89, 180, 0, 39, 90, 4, 96, 181, 0, 39, 43, 28, 184, 0, 52, 79, 42]
abbrev dktX2_processWord_0 : List UInt8 := dkwX2_processWord_0 ++ dktX2_processWord_1
theorem dksX2_processWord_0 : cX2_processWord.data.toList.drop 0 = dktX2_processWord_0 := by decide +kernel
theorem dksX2_processWord_1 : cX2_processWord.data.toList.drop 22 = dktX2_processWord_1 := dk_seg dksX2_processWord_0 22 rfl rfl
theorem dX2_processWord_0 : decode cX2_processWord 0 = .ok (.aload_n 0, 1) := dk_42 (dk_at dksX2_processWord_0 0 rfl rfl)
theorem dX2_processWord_1 : decode cX2_processWord 1 = .ok (.getfield 20, 3) := dk_180 0 20 (dk_at dksX2_processWord_0 1 rfl rfl)
theorem dX2_processWord_4 : decode cX2_processWord 4 = .ok (.aload_n 0, 1) := dk_42 (dk_at dksX2_processWord_0 4 rfl rfl)
theorem dX2_processWord_5 : decode cX2_processWord 5 = .ok (.dup, 1) := dk_89 (dk_at dksX2_processWord_0 5 rfl rfl)
theorem dX2_processWord_6 : decode cX2_processWord 6 = .ok (.getfield 39, 3) := dk_180 0 39 (dk_at dksX2_processWord_0 6 rfl rfl)
theorem dX2_processWord_9 : decode cX2_processWord 9 = .ok (.dup_x1, 1) := dk_90 (dk_at dksX2_processWord_0 9 rfl rfl)
theorem dX2_processWord_10 : decode cX2_processWord 10 = .ok (.iconst 1, 1) := dk_4 (dk_at dksX2_processWord_0 10 rfl rfl)
theorem dX2_processWord_11 : decode cX2_processWord 11 = .ok (.iadd, 1) := dk_96 (dk_at dksX2_processWord_0 11 rfl rfl)
theorem dX2_processWord_12 : decode cX2_processWord 12 = .ok (.putfield 39, 3) := dk_181 0 39 (dk_at dksX2_processWord_0 12 rfl rfl)
theorem dX2_processWord_15 : decode cX2_processWord 15 = .ok (.aload_n 1, 1) := dk_43 (dk_at dksX2_processWord_0 15 rfl rfl)
theorem dX2_processWord_16 : decode cX2_processWord 16 = .ok (.iload_n 2, 1) := dk_28 (dk_at dksX2_processWord_0 16 rfl rfl)
theorem dX2_processWord_17 : decode cX2_processWord 17 = .ok (.invokestatic 52, 3) := dk_184 0 52 (dk_at dksX2_processWord_0 17 rfl rfl)
theorem dX2_processWord_20 : decode cX2_processWord 20 = .ok (.iastore, 1) := dk_79 (dk_at dksX2_processWord_0 20 rfl rfl)
theorem dX2_processWord_21 : decode cX2_processWord 21 = .ok (.aload_n 0, 1) := dk_42 (dk_at dksX2_processWord_0 21 rfl rfl)
theorem dX2_processWord_22 : decode cX2_processWord 22 = .ok (.getfield 39, 3) := dk_180 0 39 (dk_at dksX2_processWord_1 0 rfl rfl)
theorem dX2_processWord_25 : decode cX2_processWord 25 = .ok (.bipush 16, 2) := dk_16 16 (dk_at dksX2_processWord_1 3 rfl rfl)
theorem dX2_processWord_27 : decode cX2_processWord 27 = .ok (.if_icmp .lt 7, 3) := dk_161 0 7 (dk_at dksX2_processWord_1 5 rfl rfl)
theorem dX2_processWord_30 : decode cX2_processWord 30 = .ok (.aload_n 0, 1) := dk_42 (dk_at dksX2_processWord_1 8 rfl rfl)
theorem dX2_processWord_31 : decode cX2_processWord 31 = .ok (.invokevirtual 56, 3) := dk_182 0 56 (dk_at dksX2_processWord_1 9 rfl rfl)
theorem dX2_processWord_34 : decode cX2_processWord 34 = .ok (.return_, 1) := dk_177 (dk_at dksX2_processWord_1 12 rfl rfl)
abbrev cX2_processBlock : ByteArray := prog_6_method_13_code
def yX2_processBlock : MethodName := ⟨RX2, "processBlock", "()V"⟩
def dkwX2_processBlock_26 : List UInt8 := [46, 21, 8, 130, 79, 42, 3, 181, 0, 39, 177]
abbrev dktX2_processBlock_26 : List UInt8 := dkwX2_processBlock_26 ++ []
def dkwX2_processBlock_25 : List UInt8 := [46, 21, 6, 130, 79, 42, 180, 0, 16, 16, 6, 92, 46, 21, 7, 130, 79, 42, 180, 0, 16, 16, 7, 92]
abbrev dktX2_processBlock_25 : List UInt8 := dkwX2_processBlock_25 ++ dktX2_processBlock_26
def dkwX2_processBlock_24 : List UInt8 := [6, 92, 46, 21, 4, 130, 79, 42, 180, 0, 16, 7, 92, 46, 21, 5, 130, 79, 42, 180, 0, 16, 8, 92]
abbrev dktX2_processBlock_24 : List UInt8 := dkwX2_processBlock_24 ++ dktX2_processBlock_25
def dkwX2_processBlock_23 : List UInt8 := [42, 180, 0, 16, 4, 92, 46, 28, 130, 79, 42, 180, 0, 16, 5, 92, 46, 29, 130, 79, 42, 180, 0, 16]
abbrev dktX2_processBlock_23 : List UInt8 := dkwX2_processBlock_23 ++ dktX2_processBlock_24
def dkwX2_processBlock_22 : List UInt8 := [42, 21, 17, 182, 0, 73, 54, 5, 132, 9, 1, 167, 255, 92, 42, 180, 0, 16, 3, 92, 46, 27, 130, 79]
abbrev dktX2_processBlock_22 : List UInt8 := dkwX2_processBlock_22 ++ dktX2_processBlock_23
def dkwX2_processBlock_21 : List UInt8 := [21, 16, 60, 21, 7, 54, 8, 21, 6, 16, 19, 120, 21, 6, 16, 13, 124, 128, 54, 7, 21, 5, 54, 6]
abbrev dktX2_processBlock_21 : List UInt8 := dkwX2_processBlock_21 ++ dktX2_processBlock_22
def dkwX2_processBlock_20 : List UInt8 := [21, 12, 96, 21, 14, 96, 54, 17, 29, 54, 4, 28, 16, 9, 120, 28, 16, 23, 124, 128, 62, 27, 61]
abbrev dktX2_processBlock_20 : List UInt8 := dkwX2_processBlock_20 ++ dktX2_processBlock_21
def dkwX2_processBlock_19 : List UInt8 := [21, 4, 96, 21, 13, 96, 21, 15, 96, 54, 16, 42, 21, 5, 21, 6, 21, 7, 182, 0, 79, 21, 8, 96]
abbrev dktX2_processBlock_19 : List UInt8 := dkwX2_processBlock_19 ++ dktX2_processBlock_20
def dkwX2_processBlock_18 : List UInt8 := [54, 14, 21, 14, 42, 180, 0, 23, 21, 9, 7, 96, 46, 130, 54, 15, 42, 27, 28, 29, 182, 0, 76]
abbrev dktX2_processBlock_18 : List UInt8 := dkwX2_processBlock_18 ++ dktX2_processBlock_19
def dkwX2_processBlock_17 : List UInt8 := [120, 21, 11, 16, 25, 124, 128, 54, 12, 21, 12, 21, 10, 130, 54, 13, 42, 180, 0, 23, 21, 9, 46]
abbrev dktX2_processBlock_17 : List UInt8 := dkwX2_processBlock_17 ++ dktX2_processBlock_18
def dkwX2_processBlock_16 : List UInt8 := [16, 20, 124, 128, 54, 10, 21, 10, 21, 5, 96, 178, 0, 63, 21, 9, 46, 96, 54, 11, 21, 11, 16, 7]
abbrev dktX2_processBlock_16 : List UInt8 := dkwX2_processBlock_16 ++ dktX2_processBlock_17
def dkwX2_processBlock_15 : List UInt8 := [54, 5, 132, 9, 1, 167, 255, 92, 16, 16, 54, 9, 21, 9, 16, 64, 162, 0, 163, 27, 16, 12, 120, 27]
abbrev dktX2_processBlock_15 : List UInt8 := dkwX2_processBlock_15 ++ dktX2_processBlock_16
def dkwX2_processBlock_14 : List UInt8 := [21, 6, 16, 19, 120, 21, 6, 16, 13, 124, 128, 54, 7, 21, 5, 54, 6, 42, 21, 17, 182, 0, 73]
abbrev dktX2_processBlock_14 : List UInt8 := dkwX2_processBlock_14 ++ dktX2_processBlock_15
def dkwX2_processBlock_13 : List UInt8 := [54, 17, 29, 54, 4, 28, 16, 9, 120, 28, 16, 23, 124, 128, 62, 27, 61, 21, 16, 60, 21, 7, 54, 8]
abbrev dktX2_processBlock_13 : List UInt8 := dkwX2_processBlock_13 ++ dktX2_processBlock_14
def dkwX2_processBlock_12 : List UInt8 := [21, 15, 96, 54, 16, 42, 21, 5, 21, 6, 21, 7, 182, 0, 70, 21, 8, 96, 21, 12, 96, 21, 14, 96]
abbrev dktX2_processBlock_12 : List UInt8 := dkwX2_processBlock_12 ++ dktX2_processBlock_13
def dkwX2_processBlock_11 : List UInt8 := [180, 0, 23, 21, 9, 7, 96, 46, 130, 54, 15, 42, 27, 28, 29, 182, 0, 66, 21, 4, 96, 21, 13, 96]
abbrev dktX2_processBlock_11 : List UInt8 := dkwX2_processBlock_11 ++ dktX2_processBlock_12
def dkwX2_processBlock_10 : List UInt8 := [128, 54, 12, 21, 12, 21, 10, 130, 54, 13, 42, 180, 0, 23, 21, 9, 46, 54, 14, 21, 14, 42]
abbrev dktX2_processBlock_10 : List UInt8 := dkwX2_processBlock_10 ++ dktX2_processBlock_11
def dkwX2_processBlock_9 : List UInt8 := [21, 10, 21, 5, 96, 178, 0, 63, 21, 9, 46, 96, 54, 11, 21, 11, 16, 7, 120, 21, 11, 16, 25, 124]
abbrev dktX2_processBlock_9 : List UInt8 := dkwX2_processBlock_9 ++ dktX2_processBlock_10
def dkwX2_processBlock_8 : List UInt8 := [54, 8, 3, 54, 9, 21, 9, 16, 16, 162, 0, 163, 27, 16, 12, 120, 27, 16, 20, 124, 128, 54, 10]
abbrev dktX2_processBlock_8 : List UInt8 := dkwX2_processBlock_8 ++ dktX2_processBlock_9
def dkwX2_processBlock_7 : List UInt8 := [180, 0, 16, 8, 46, 54, 6, 42, 180, 0, 16, 16, 6, 46, 54, 7, 42, 180, 0, 16, 16, 7, 46]
abbrev dktX2_processBlock_7 : List UInt8 := dkwX2_processBlock_7 ++ dktX2_processBlock_8
def dkwX2_processBlock_6 : List UInt8 := [42, 180, 0, 16, 5, 46, 62, 42, 180, 0, 16, 6, 46, 54, 4, 42, 180, 0, 16, 7, 46, 54, 5, 42]
abbrev dktX2_processBlock_6 : List UInt8 := dkwX2_processBlock_6 ++ dktX2_processBlock_7
def dkwX2_processBlock_5 : List UInt8 := [100, 46, 130, 79, 132, 1, 1, 167, 255, 160, 42, 180, 0, 16, 3, 46, 60, 42, 180, 0, 16, 4, 46, 61]
abbrev dktX2_processBlock_5 : List UInt8 := dkwX2_processBlock_5 ++ dktX2_processBlock_6
def dkwX2_processBlock_4 : List UInt8 := [180, 0, 23, 27, 16, 9, 100, 46, 130, 29, 130, 182, 0, 59, 21, 5, 130, 42, 180, 0, 23, 27, 16, 6]
abbrev dktX2_processBlock_4 : List UInt8 := dkwX2_processBlock_4 ++ dktX2_processBlock_5
def dkwX2_processBlock_3 : List UInt8 := [21, 4, 16, 25, 124, 128, 54, 5, 42, 180, 0, 23, 27, 42, 42, 180, 0, 23, 27, 16, 16, 100, 46, 42]
abbrev dktX2_processBlock_3 : List UInt8 := dkwX2_processBlock_3 ++ dktX2_processBlock_4
def dkwX2_processBlock_2 : List UInt8 := [120, 28, 16, 17, 124, 128, 62, 42, 180, 0, 23, 27, 16, 13, 100, 46, 54, 4, 21, 4, 16, 7, 120]
abbrev dktX2_processBlock_2 : List UInt8 := dkwX2_processBlock_2 ++ dktX2_processBlock_3
def dkwX2_processBlock_1 : List UInt8 := [167, 255, 235, 16, 16, 60, 27, 16, 68, 162, 0, 96, 42, 180, 0, 23, 27, 6, 100, 46, 61, 28, 16, 15]
abbrev dktX2_processBlock_1 : List UInt8 := dkwX2_processBlock_1 ++ dktX2_processBlock_2
def dkwX2_processBlock_0 : List UInt8 := [3, 60, 27, 16, 16, 162, 0, 21, 42, 180, 0, 23, 27, 42, 180, 0, 20, 27, 46, 79, 132, 1, 1]
abbrev dktX2_processBlock_0 : List UInt8 := dkwX2_processBlock_0 ++ dktX2_processBlock_1
theorem dksX2_processBlock_0 : cX2_processBlock.data.toList.drop 0 = dktX2_processBlock_0 := by decide +kernel
theorem dksX2_processBlock_1 : cX2_processBlock.data.toList.drop 23 = dktX2_processBlock_1 := dk_seg dksX2_processBlock_0 23 rfl rfl
theorem dksX2_processBlock_2 : cX2_processBlock.data.toList.drop 47 = dktX2_processBlock_2 := dk_seg dksX2_processBlock_1 24 rfl rfl
theorem dksX2_processBlock_3 : cX2_processBlock.data.toList.drop 70 = dktX2_processBlock_3 := dk_seg dksX2_processBlock_2 23 rfl rfl
theorem dksX2_processBlock_4 : cX2_processBlock.data.toList.drop 94 = dktX2_processBlock_4 := dk_seg dksX2_processBlock_3 24 rfl rfl
theorem dksX2_processBlock_5 : cX2_processBlock.data.toList.drop 118 = dktX2_processBlock_5 := dk_seg dksX2_processBlock_4 24 rfl rfl
theorem dksX2_processBlock_6 : cX2_processBlock.data.toList.drop 142 = dktX2_processBlock_6 := dk_seg dksX2_processBlock_5 24 rfl rfl
theorem dksX2_processBlock_7 : cX2_processBlock.data.toList.drop 166 = dktX2_processBlock_7 := dk_seg dksX2_processBlock_6 24 rfl rfl
theorem dksX2_processBlock_8 : cX2_processBlock.data.toList.drop 189 = dktX2_processBlock_8 := dk_seg dksX2_processBlock_7 23 rfl rfl
theorem dksX2_processBlock_9 : cX2_processBlock.data.toList.drop 212 = dktX2_processBlock_9 := dk_seg dksX2_processBlock_8 23 rfl rfl
theorem dksX2_processBlock_10 : cX2_processBlock.data.toList.drop 236 = dktX2_processBlock_10 := dk_seg dksX2_processBlock_9 24 rfl rfl
theorem dksX2_processBlock_11 : cX2_processBlock.data.toList.drop 258 = dktX2_processBlock_11 := dk_seg dksX2_processBlock_10 22 rfl rfl
theorem dksX2_processBlock_12 : cX2_processBlock.data.toList.drop 282 = dktX2_processBlock_12 := dk_seg dksX2_processBlock_11 24 rfl rfl
theorem dksX2_processBlock_13 : cX2_processBlock.data.toList.drop 306 = dktX2_processBlock_13 := dk_seg dksX2_processBlock_12 24 rfl rfl
theorem dksX2_processBlock_14 : cX2_processBlock.data.toList.drop 330 = dktX2_processBlock_14 := dk_seg dksX2_processBlock_13 24 rfl rfl
theorem dksX2_processBlock_15 : cX2_processBlock.data.toList.drop 353 = dktX2_processBlock_15 := dk_seg dksX2_processBlock_14 23 rfl rfl
theorem dksX2_processBlock_16 : cX2_processBlock.data.toList.drop 377 = dktX2_processBlock_16 := dk_seg dksX2_processBlock_15 24 rfl rfl
theorem dksX2_processBlock_17 : cX2_processBlock.data.toList.drop 401 = dktX2_processBlock_17 := dk_seg dksX2_processBlock_16 24 rfl rfl
theorem dksX2_processBlock_18 : cX2_processBlock.data.toList.drop 424 = dktX2_processBlock_18 := dk_seg dksX2_processBlock_17 23 rfl rfl
theorem dksX2_processBlock_19 : cX2_processBlock.data.toList.drop 447 = dktX2_processBlock_19 := dk_seg dksX2_processBlock_18 23 rfl rfl
theorem dksX2_processBlock_20 : cX2_processBlock.data.toList.drop 471 = dktX2_processBlock_20 := dk_seg dksX2_processBlock_19 24 rfl rfl
theorem dksX2_processBlock_21 : cX2_processBlock.data.toList.drop 494 = dktX2_processBlock_21 := dk_seg dksX2_processBlock_20 23 rfl rfl
theorem dksX2_processBlock_22 : cX2_processBlock.data.toList.drop 518 = dktX2_processBlock_22 := dk_seg dksX2_processBlock_21 24 rfl rfl
theorem dksX2_processBlock_23 : cX2_processBlock.data.toList.drop 542 = dktX2_processBlock_23 := dk_seg dksX2_processBlock_22 24 rfl rfl
theorem dksX2_processBlock_24 : cX2_processBlock.data.toList.drop 566 = dktX2_processBlock_24 := dk_seg dksX2_processBlock_23 24 rfl rfl
theorem dksX2_processBlock_25 : cX2_processBlock.data.toList.drop 590 = dktX2_processBlock_25 := dk_seg dksX2_processBlock_24 24 rfl rfl
theorem dksX2_processBlock_26 : cX2_processBlock.data.toList.drop 614 = dktX2_processBlock_26 := dk_seg dksX2_processBlock_25 24 rfl rfl
theorem dX2_processBlock_0 : decode cX2_processBlock 0 = .ok (.iconst 0, 1) := dk_3 (dk_at dksX2_processBlock_0 0 rfl rfl)
theorem dX2_processBlock_1 : decode cX2_processBlock 1 = .ok (.istore_n 1, 1) := dk_60 (dk_at dksX2_processBlock_0 1 rfl rfl)
theorem dX2_processBlock_2 : decode cX2_processBlock 2 = .ok (.iload_n 1, 1) := dk_27 (dk_at dksX2_processBlock_0 2 rfl rfl)
theorem dX2_processBlock_3 : decode cX2_processBlock 3 = .ok (.bipush 16, 2) := dk_16 16 (dk_at dksX2_processBlock_0 3 rfl rfl)
theorem dX2_processBlock_5 : decode cX2_processBlock 5 = .ok (.if_icmp .ge 21, 3) := dk_162 0 21 (dk_at dksX2_processBlock_0 5 rfl rfl)
theorem dX2_processBlock_8 : decode cX2_processBlock 8 = .ok (.aload_n 0, 1) := dk_42 (dk_at dksX2_processBlock_0 8 rfl rfl)
theorem dX2_processBlock_9 : decode cX2_processBlock 9 = .ok (.getfield 23, 3) := dk_180 0 23 (dk_at dksX2_processBlock_0 9 rfl rfl)
theorem dX2_processBlock_12 : decode cX2_processBlock 12 = .ok (.iload_n 1, 1) := dk_27 (dk_at dksX2_processBlock_0 12 rfl rfl)
theorem dX2_processBlock_13 : decode cX2_processBlock 13 = .ok (.aload_n 0, 1) := dk_42 (dk_at dksX2_processBlock_0 13 rfl rfl)
theorem dX2_processBlock_14 : decode cX2_processBlock 14 = .ok (.getfield 20, 3) := dk_180 0 20 (dk_at dksX2_processBlock_0 14 rfl rfl)
theorem dX2_processBlock_17 : decode cX2_processBlock 17 = .ok (.iload_n 1, 1) := dk_27 (dk_at dksX2_processBlock_0 17 rfl rfl)
theorem dX2_processBlock_18 : decode cX2_processBlock 18 = .ok (.iaload, 1) := dk_46 (dk_at dksX2_processBlock_0 18 rfl rfl)
theorem dX2_processBlock_19 : decode cX2_processBlock 19 = .ok (.iastore, 1) := dk_79 (dk_at dksX2_processBlock_0 19 rfl rfl)
theorem dX2_processBlock_20 : decode cX2_processBlock 20 = .ok (.iinc 1 1, 3) := dk_132 1 1 (dk_at dksX2_processBlock_0 20 rfl rfl)
theorem dX2_processBlock_23 : decode cX2_processBlock 23 = .ok (.goto (-21), 3) := dk_167 255 235 (dk_at dksX2_processBlock_1 0 rfl rfl)
theorem dX2_processBlock_26 : decode cX2_processBlock 26 = .ok (.bipush 16, 2) := dk_16 16 (dk_at dksX2_processBlock_1 3 rfl rfl)
theorem dX2_processBlock_28 : decode cX2_processBlock 28 = .ok (.istore_n 1, 1) := dk_60 (dk_at dksX2_processBlock_1 5 rfl rfl)
theorem dX2_processBlock_29 : decode cX2_processBlock 29 = .ok (.iload_n 1, 1) := dk_27 (dk_at dksX2_processBlock_1 6 rfl rfl)
theorem dX2_processBlock_30 : decode cX2_processBlock 30 = .ok (.bipush 68, 2) := dk_16 68 (dk_at dksX2_processBlock_1 7 rfl rfl)
theorem dX2_processBlock_32 : decode cX2_processBlock 32 = .ok (.if_icmp .ge 96, 3) := dk_162 0 96 (dk_at dksX2_processBlock_1 9 rfl rfl)
theorem dX2_processBlock_35 : decode cX2_processBlock 35 = .ok (.aload_n 0, 1) := dk_42 (dk_at dksX2_processBlock_1 12 rfl rfl)
theorem dX2_processBlock_36 : decode cX2_processBlock 36 = .ok (.getfield 23, 3) := dk_180 0 23 (dk_at dksX2_processBlock_1 13 rfl rfl)
theorem dX2_processBlock_39 : decode cX2_processBlock 39 = .ok (.iload_n 1, 1) := dk_27 (dk_at dksX2_processBlock_1 16 rfl rfl)
theorem dX2_processBlock_40 : decode cX2_processBlock 40 = .ok (.iconst 3, 1) := dk_6 (dk_at dksX2_processBlock_1 17 rfl rfl)
theorem dX2_processBlock_41 : decode cX2_processBlock 41 = .ok (.isub, 1) := dk_100 (dk_at dksX2_processBlock_1 18 rfl rfl)
theorem dX2_processBlock_42 : decode cX2_processBlock 42 = .ok (.iaload, 1) := dk_46 (dk_at dksX2_processBlock_1 19 rfl rfl)
theorem dX2_processBlock_43 : decode cX2_processBlock 43 = .ok (.istore_n 2, 1) := dk_61 (dk_at dksX2_processBlock_1 20 rfl rfl)
theorem dX2_processBlock_44 : decode cX2_processBlock 44 = .ok (.iload_n 2, 1) := dk_28 (dk_at dksX2_processBlock_1 21 rfl rfl)
theorem dX2_processBlock_45 : decode cX2_processBlock 45 = .ok (.bipush 15, 2) := dk_16 15 (dk_at dksX2_processBlock_1 22 rfl rfl)
theorem dX2_processBlock_47 : decode cX2_processBlock 47 = .ok (.ishl, 1) := dk_120 (dk_at dksX2_processBlock_2 0 rfl rfl)
theorem dX2_processBlock_48 : decode cX2_processBlock 48 = .ok (.iload_n 2, 1) := dk_28 (dk_at dksX2_processBlock_2 1 rfl rfl)
theorem dX2_processBlock_49 : decode cX2_processBlock 49 = .ok (.bipush 17, 2) := dk_16 17 (dk_at dksX2_processBlock_2 2 rfl rfl)
theorem dX2_processBlock_51 : decode cX2_processBlock 51 = .ok (.iushr, 1) := dk_124 (dk_at dksX2_processBlock_2 4 rfl rfl)
theorem dX2_processBlock_52 : decode cX2_processBlock 52 = .ok (.ior, 1) := dk_128 (dk_at dksX2_processBlock_2 5 rfl rfl)
theorem dX2_processBlock_53 : decode cX2_processBlock 53 = .ok (.istore_n 3, 1) := dk_62 (dk_at dksX2_processBlock_2 6 rfl rfl)
theorem dX2_processBlock_54 : decode cX2_processBlock 54 = .ok (.aload_n 0, 1) := dk_42 (dk_at dksX2_processBlock_2 7 rfl rfl)
theorem dX2_processBlock_55 : decode cX2_processBlock 55 = .ok (.getfield 23, 3) := dk_180 0 23 (dk_at dksX2_processBlock_2 8 rfl rfl)
theorem dX2_processBlock_58 : decode cX2_processBlock 58 = .ok (.iload_n 1, 1) := dk_27 (dk_at dksX2_processBlock_2 11 rfl rfl)
theorem dX2_processBlock_59 : decode cX2_processBlock 59 = .ok (.bipush 13, 2) := dk_16 13 (dk_at dksX2_processBlock_2 12 rfl rfl)
theorem dX2_processBlock_61 : decode cX2_processBlock 61 = .ok (.isub, 1) := dk_100 (dk_at dksX2_processBlock_2 14 rfl rfl)
theorem dX2_processBlock_62 : decode cX2_processBlock 62 = .ok (.iaload, 1) := dk_46 (dk_at dksX2_processBlock_2 15 rfl rfl)
theorem dX2_processBlock_63 : decode cX2_processBlock 63 = .ok (.istore 4, 2) := dk_54 4 (dk_at dksX2_processBlock_2 16 rfl rfl)
theorem dX2_processBlock_65 : decode cX2_processBlock 65 = .ok (.iload 4, 2) := dk_21 4 (dk_at dksX2_processBlock_2 18 rfl rfl)
theorem dX2_processBlock_67 : decode cX2_processBlock 67 = .ok (.bipush 7, 2) := dk_16 7 (dk_at dksX2_processBlock_2 20 rfl rfl)
theorem dX2_processBlock_69 : decode cX2_processBlock 69 = .ok (.ishl, 1) := dk_120 (dk_at dksX2_processBlock_2 22 rfl rfl)
theorem dX2_processBlock_70 : decode cX2_processBlock 70 = .ok (.iload 4, 2) := dk_21 4 (dk_at dksX2_processBlock_3 0 rfl rfl)
theorem dX2_processBlock_72 : decode cX2_processBlock 72 = .ok (.bipush 25, 2) := dk_16 25 (dk_at dksX2_processBlock_3 2 rfl rfl)
theorem dX2_processBlock_74 : decode cX2_processBlock 74 = .ok (.iushr, 1) := dk_124 (dk_at dksX2_processBlock_3 4 rfl rfl)
theorem dX2_processBlock_75 : decode cX2_processBlock 75 = .ok (.ior, 1) := dk_128 (dk_at dksX2_processBlock_3 5 rfl rfl)
theorem dX2_processBlock_76 : decode cX2_processBlock 76 = .ok (.istore 5, 2) := dk_54 5 (dk_at dksX2_processBlock_3 6 rfl rfl)
theorem dX2_processBlock_78 : decode cX2_processBlock 78 = .ok (.aload_n 0, 1) := dk_42 (dk_at dksX2_processBlock_3 8 rfl rfl)
theorem dX2_processBlock_79 : decode cX2_processBlock 79 = .ok (.getfield 23, 3) := dk_180 0 23 (dk_at dksX2_processBlock_3 9 rfl rfl)
theorem dX2_processBlock_82 : decode cX2_processBlock 82 = .ok (.iload_n 1, 1) := dk_27 (dk_at dksX2_processBlock_3 12 rfl rfl)
theorem dX2_processBlock_83 : decode cX2_processBlock 83 = .ok (.aload_n 0, 1) := dk_42 (dk_at dksX2_processBlock_3 13 rfl rfl)
theorem dX2_processBlock_84 : decode cX2_processBlock 84 = .ok (.aload_n 0, 1) := dk_42 (dk_at dksX2_processBlock_3 14 rfl rfl)
theorem dX2_processBlock_85 : decode cX2_processBlock 85 = .ok (.getfield 23, 3) := dk_180 0 23 (dk_at dksX2_processBlock_3 15 rfl rfl)
theorem dX2_processBlock_88 : decode cX2_processBlock 88 = .ok (.iload_n 1, 1) := dk_27 (dk_at dksX2_processBlock_3 18 rfl rfl)
theorem dX2_processBlock_89 : decode cX2_processBlock 89 = .ok (.bipush 16, 2) := dk_16 16 (dk_at dksX2_processBlock_3 19 rfl rfl)
theorem dX2_processBlock_91 : decode cX2_processBlock 91 = .ok (.isub, 1) := dk_100 (dk_at dksX2_processBlock_3 21 rfl rfl)
theorem dX2_processBlock_92 : decode cX2_processBlock 92 = .ok (.iaload, 1) := dk_46 (dk_at dksX2_processBlock_3 22 rfl rfl)
theorem dX2_processBlock_93 : decode cX2_processBlock 93 = .ok (.aload_n 0, 1) := dk_42 (dk_at dksX2_processBlock_3 23 rfl rfl)
theorem dX2_processBlock_94 : decode cX2_processBlock 94 = .ok (.getfield 23, 3) := dk_180 0 23 (dk_at dksX2_processBlock_4 0 rfl rfl)
theorem dX2_processBlock_97 : decode cX2_processBlock 97 = .ok (.iload_n 1, 1) := dk_27 (dk_at dksX2_processBlock_4 3 rfl rfl)
theorem dX2_processBlock_98 : decode cX2_processBlock 98 = .ok (.bipush 9, 2) := dk_16 9 (dk_at dksX2_processBlock_4 4 rfl rfl)
theorem dX2_processBlock_100 : decode cX2_processBlock 100 = .ok (.isub, 1) := dk_100 (dk_at dksX2_processBlock_4 6 rfl rfl)
theorem dX2_processBlock_101 : decode cX2_processBlock 101 = .ok (.iaload, 1) := dk_46 (dk_at dksX2_processBlock_4 7 rfl rfl)
theorem dX2_processBlock_102 : decode cX2_processBlock 102 = .ok (.ixor, 1) := dk_130 (dk_at dksX2_processBlock_4 8 rfl rfl)
theorem dX2_processBlock_103 : decode cX2_processBlock 103 = .ok (.iload_n 3, 1) := dk_29 (dk_at dksX2_processBlock_4 9 rfl rfl)
theorem dX2_processBlock_104 : decode cX2_processBlock 104 = .ok (.ixor, 1) := dk_130 (dk_at dksX2_processBlock_4 10 rfl rfl)
theorem dX2_processBlock_105 : decode cX2_processBlock 105 = .ok (.invokevirtual 59, 3) := dk_182 0 59 (dk_at dksX2_processBlock_4 11 rfl rfl)
theorem dX2_processBlock_108 : decode cX2_processBlock 108 = .ok (.iload 5, 2) := dk_21 5 (dk_at dksX2_processBlock_4 14 rfl rfl)
theorem dX2_processBlock_110 : decode cX2_processBlock 110 = .ok (.ixor, 1) := dk_130 (dk_at dksX2_processBlock_4 16 rfl rfl)
theorem dX2_processBlock_111 : decode cX2_processBlock 111 = .ok (.aload_n 0, 1) := dk_42 (dk_at dksX2_processBlock_4 17 rfl rfl)
theorem dX2_processBlock_112 : decode cX2_processBlock 112 = .ok (.getfield 23, 3) := dk_180 0 23 (dk_at dksX2_processBlock_4 18 rfl rfl)
theorem dX2_processBlock_115 : decode cX2_processBlock 115 = .ok (.iload_n 1, 1) := dk_27 (dk_at dksX2_processBlock_4 21 rfl rfl)
theorem dX2_processBlock_116 : decode cX2_processBlock 116 = .ok (.bipush 6, 2) := dk_16 6 (dk_at dksX2_processBlock_4 22 rfl rfl)
theorem dX2_processBlock_118 : decode cX2_processBlock 118 = .ok (.isub, 1) := dk_100 (dk_at dksX2_processBlock_5 0 rfl rfl)
theorem dX2_processBlock_119 : decode cX2_processBlock 119 = .ok (.iaload, 1) := dk_46 (dk_at dksX2_processBlock_5 1 rfl rfl)
theorem dX2_processBlock_120 : decode cX2_processBlock 120 = .ok (.ixor, 1) := dk_130 (dk_at dksX2_processBlock_5 2 rfl rfl)
theorem dX2_processBlock_121 : decode cX2_processBlock 121 = .ok (.iastore, 1) := dk_79 (dk_at dksX2_processBlock_5 3 rfl rfl)
theorem dX2_processBlock_122 : decode cX2_processBlock 122 = .ok (.iinc 1 1, 3) := dk_132 1 1 (dk_at dksX2_processBlock_5 4 rfl rfl)
theorem dX2_processBlock_125 : decode cX2_processBlock 125 = .ok (.goto (-96), 3) := dk_167 255 160 (dk_at dksX2_processBlock_5 7 rfl rfl)
theorem dX2_processBlock_128 : decode cX2_processBlock 128 = .ok (.aload_n 0, 1) := dk_42 (dk_at dksX2_processBlock_5 10 rfl rfl)
theorem dX2_processBlock_129 : decode cX2_processBlock 129 = .ok (.getfield 16, 3) := dk_180 0 16 (dk_at dksX2_processBlock_5 11 rfl rfl)
theorem dX2_processBlock_132 : decode cX2_processBlock 132 = .ok (.iconst 0, 1) := dk_3 (dk_at dksX2_processBlock_5 14 rfl rfl)
theorem dX2_processBlock_133 : decode cX2_processBlock 133 = .ok (.iaload, 1) := dk_46 (dk_at dksX2_processBlock_5 15 rfl rfl)
theorem dX2_processBlock_134 : decode cX2_processBlock 134 = .ok (.istore_n 1, 1) := dk_60 (dk_at dksX2_processBlock_5 16 rfl rfl)
theorem dX2_processBlock_135 : decode cX2_processBlock 135 = .ok (.aload_n 0, 1) := dk_42 (dk_at dksX2_processBlock_5 17 rfl rfl)
theorem dX2_processBlock_136 : decode cX2_processBlock 136 = .ok (.getfield 16, 3) := dk_180 0 16 (dk_at dksX2_processBlock_5 18 rfl rfl)
theorem dX2_processBlock_139 : decode cX2_processBlock 139 = .ok (.iconst 1, 1) := dk_4 (dk_at dksX2_processBlock_5 21 rfl rfl)
theorem dX2_processBlock_140 : decode cX2_processBlock 140 = .ok (.iaload, 1) := dk_46 (dk_at dksX2_processBlock_5 22 rfl rfl)
theorem dX2_processBlock_141 : decode cX2_processBlock 141 = .ok (.istore_n 2, 1) := dk_61 (dk_at dksX2_processBlock_5 23 rfl rfl)
theorem dX2_processBlock_142 : decode cX2_processBlock 142 = .ok (.aload_n 0, 1) := dk_42 (dk_at dksX2_processBlock_6 0 rfl rfl)
theorem dX2_processBlock_143 : decode cX2_processBlock 143 = .ok (.getfield 16, 3) := dk_180 0 16 (dk_at dksX2_processBlock_6 1 rfl rfl)
theorem dX2_processBlock_146 : decode cX2_processBlock 146 = .ok (.iconst 2, 1) := dk_5 (dk_at dksX2_processBlock_6 4 rfl rfl)
theorem dX2_processBlock_147 : decode cX2_processBlock 147 = .ok (.iaload, 1) := dk_46 (dk_at dksX2_processBlock_6 5 rfl rfl)
theorem dX2_processBlock_148 : decode cX2_processBlock 148 = .ok (.istore_n 3, 1) := dk_62 (dk_at dksX2_processBlock_6 6 rfl rfl)
theorem dX2_processBlock_149 : decode cX2_processBlock 149 = .ok (.aload_n 0, 1) := dk_42 (dk_at dksX2_processBlock_6 7 rfl rfl)
theorem dX2_processBlock_150 : decode cX2_processBlock 150 = .ok (.getfield 16, 3) := dk_180 0 16 (dk_at dksX2_processBlock_6 8 rfl rfl)
theorem dX2_processBlock_153 : decode cX2_processBlock 153 = .ok (.iconst 3, 1) := dk_6 (dk_at dksX2_processBlock_6 11 rfl rfl)
theorem dX2_processBlock_154 : decode cX2_processBlock 154 = .ok (.iaload, 1) := dk_46 (dk_at dksX2_processBlock_6 12 rfl rfl)
theorem dX2_processBlock_155 : decode cX2_processBlock 155 = .ok (.istore 4, 2) := dk_54 4 (dk_at dksX2_processBlock_6 13 rfl rfl)
theorem dX2_processBlock_157 : decode cX2_processBlock 157 = .ok (.aload_n 0, 1) := dk_42 (dk_at dksX2_processBlock_6 15 rfl rfl)
theorem dX2_processBlock_158 : decode cX2_processBlock 158 = .ok (.getfield 16, 3) := dk_180 0 16 (dk_at dksX2_processBlock_6 16 rfl rfl)
theorem dX2_processBlock_161 : decode cX2_processBlock 161 = .ok (.iconst 4, 1) := dk_7 (dk_at dksX2_processBlock_6 19 rfl rfl)
theorem dX2_processBlock_162 : decode cX2_processBlock 162 = .ok (.iaload, 1) := dk_46 (dk_at dksX2_processBlock_6 20 rfl rfl)
theorem dX2_processBlock_163 : decode cX2_processBlock 163 = .ok (.istore 5, 2) := dk_54 5 (dk_at dksX2_processBlock_6 21 rfl rfl)
theorem dX2_processBlock_165 : decode cX2_processBlock 165 = .ok (.aload_n 0, 1) := dk_42 (dk_at dksX2_processBlock_6 23 rfl rfl)
theorem dX2_processBlock_166 : decode cX2_processBlock 166 = .ok (.getfield 16, 3) := dk_180 0 16 (dk_at dksX2_processBlock_7 0 rfl rfl)
theorem dX2_processBlock_169 : decode cX2_processBlock 169 = .ok (.iconst 5, 1) := dk_8 (dk_at dksX2_processBlock_7 3 rfl rfl)
theorem dX2_processBlock_170 : decode cX2_processBlock 170 = .ok (.iaload, 1) := dk_46 (dk_at dksX2_processBlock_7 4 rfl rfl)
theorem dX2_processBlock_171 : decode cX2_processBlock 171 = .ok (.istore 6, 2) := dk_54 6 (dk_at dksX2_processBlock_7 5 rfl rfl)
theorem dX2_processBlock_173 : decode cX2_processBlock 173 = .ok (.aload_n 0, 1) := dk_42 (dk_at dksX2_processBlock_7 7 rfl rfl)
theorem dX2_processBlock_174 : decode cX2_processBlock 174 = .ok (.getfield 16, 3) := dk_180 0 16 (dk_at dksX2_processBlock_7 8 rfl rfl)
theorem dX2_processBlock_177 : decode cX2_processBlock 177 = .ok (.bipush 6, 2) := dk_16 6 (dk_at dksX2_processBlock_7 11 rfl rfl)
theorem dX2_processBlock_179 : decode cX2_processBlock 179 = .ok (.iaload, 1) := dk_46 (dk_at dksX2_processBlock_7 13 rfl rfl)
theorem dX2_processBlock_180 : decode cX2_processBlock 180 = .ok (.istore 7, 2) := dk_54 7 (dk_at dksX2_processBlock_7 14 rfl rfl)
theorem dX2_processBlock_182 : decode cX2_processBlock 182 = .ok (.aload_n 0, 1) := dk_42 (dk_at dksX2_processBlock_7 16 rfl rfl)
theorem dX2_processBlock_183 : decode cX2_processBlock 183 = .ok (.getfield 16, 3) := dk_180 0 16 (dk_at dksX2_processBlock_7 17 rfl rfl)
theorem dX2_processBlock_186 : decode cX2_processBlock 186 = .ok (.bipush 7, 2) := dk_16 7 (dk_at dksX2_processBlock_7 20 rfl rfl)
theorem dX2_processBlock_188 : decode cX2_processBlock 188 = .ok (.iaload, 1) := dk_46 (dk_at dksX2_processBlock_7 22 rfl rfl)
theorem dX2_processBlock_189 : decode cX2_processBlock 189 = .ok (.istore 8, 2) := dk_54 8 (dk_at dksX2_processBlock_8 0 rfl rfl)
theorem dX2_processBlock_191 : decode cX2_processBlock 191 = .ok (.iconst 0, 1) := dk_3 (dk_at dksX2_processBlock_8 2 rfl rfl)
theorem dX2_processBlock_192 : decode cX2_processBlock 192 = .ok (.istore 9, 2) := dk_54 9 (dk_at dksX2_processBlock_8 3 rfl rfl)
theorem dX2_processBlock_194 : decode cX2_processBlock 194 = .ok (.iload 9, 2) := dk_21 9 (dk_at dksX2_processBlock_8 5 rfl rfl)
theorem dX2_processBlock_196 : decode cX2_processBlock 196 = .ok (.bipush 16, 2) := dk_16 16 (dk_at dksX2_processBlock_8 7 rfl rfl)
theorem dX2_processBlock_198 : decode cX2_processBlock 198 = .ok (.if_icmp .ge 163, 3) := dk_162 0 163 (dk_at dksX2_processBlock_8 9 rfl rfl)
theorem dX2_processBlock_201 : decode cX2_processBlock 201 = .ok (.iload_n 1, 1) := dk_27 (dk_at dksX2_processBlock_8 12 rfl rfl)
theorem dX2_processBlock_202 : decode cX2_processBlock 202 = .ok (.bipush 12, 2) := dk_16 12 (dk_at dksX2_processBlock_8 13 rfl rfl)
theorem dX2_processBlock_204 : decode cX2_processBlock 204 = .ok (.ishl, 1) := dk_120 (dk_at dksX2_processBlock_8 15 rfl rfl)
theorem dX2_processBlock_205 : decode cX2_processBlock 205 = .ok (.iload_n 1, 1) := dk_27 (dk_at dksX2_processBlock_8 16 rfl rfl)
theorem dX2_processBlock_206 : decode cX2_processBlock 206 = .ok (.bipush 20, 2) := dk_16 20 (dk_at dksX2_processBlock_8 17 rfl rfl)
theorem dX2_processBlock_208 : decode cX2_processBlock 208 = .ok (.iushr, 1) := dk_124 (dk_at dksX2_processBlock_8 19 rfl rfl)
theorem dX2_processBlock_209 : decode cX2_processBlock 209 = .ok (.ior, 1) := dk_128 (dk_at dksX2_processBlock_8 20 rfl rfl)
theorem dX2_processBlock_210 : decode cX2_processBlock 210 = .ok (.istore 10, 2) := dk_54 10 (dk_at dksX2_processBlock_8 21 rfl rfl)
theorem dX2_processBlock_212 : decode cX2_processBlock 212 = .ok (.iload 10, 2) := dk_21 10 (dk_at dksX2_processBlock_9 0 rfl rfl)
theorem dX2_processBlock_214 : decode cX2_processBlock 214 = .ok (.iload 5, 2) := dk_21 5 (dk_at dksX2_processBlock_9 2 rfl rfl)
theorem dX2_processBlock_216 : decode cX2_processBlock 216 = .ok (.iadd, 1) := dk_96 (dk_at dksX2_processBlock_9 4 rfl rfl)
theorem dX2_processBlock_217 : decode cX2_processBlock 217 = .ok (.getstatic 63, 3) := dk_178 0 63 (dk_at dksX2_processBlock_9 5 rfl rfl)
theorem dX2_processBlock_220 : decode cX2_processBlock 220 = .ok (.iload 9, 2) := dk_21 9 (dk_at dksX2_processBlock_9 8 rfl rfl)
theorem dX2_processBlock_222 : decode cX2_processBlock 222 = .ok (.iaload, 1) := dk_46 (dk_at dksX2_processBlock_9 10 rfl rfl)
theorem dX2_processBlock_223 : decode cX2_processBlock 223 = .ok (.iadd, 1) := dk_96 (dk_at dksX2_processBlock_9 11 rfl rfl)
theorem dX2_processBlock_224 : decode cX2_processBlock 224 = .ok (.istore 11, 2) := dk_54 11 (dk_at dksX2_processBlock_9 12 rfl rfl)
theorem dX2_processBlock_226 : decode cX2_processBlock 226 = .ok (.iload 11, 2) := dk_21 11 (dk_at dksX2_processBlock_9 14 rfl rfl)
theorem dX2_processBlock_228 : decode cX2_processBlock 228 = .ok (.bipush 7, 2) := dk_16 7 (dk_at dksX2_processBlock_9 16 rfl rfl)
theorem dX2_processBlock_230 : decode cX2_processBlock 230 = .ok (.ishl, 1) := dk_120 (dk_at dksX2_processBlock_9 18 rfl rfl)
theorem dX2_processBlock_231 : decode cX2_processBlock 231 = .ok (.iload 11, 2) := dk_21 11 (dk_at dksX2_processBlock_9 19 rfl rfl)
theorem dX2_processBlock_233 : decode cX2_processBlock 233 = .ok (.bipush 25, 2) := dk_16 25 (dk_at dksX2_processBlock_9 21 rfl rfl)
theorem dX2_processBlock_235 : decode cX2_processBlock 235 = .ok (.iushr, 1) := dk_124 (dk_at dksX2_processBlock_9 23 rfl rfl)
theorem dX2_processBlock_236 : decode cX2_processBlock 236 = .ok (.ior, 1) := dk_128 (dk_at dksX2_processBlock_10 0 rfl rfl)
theorem dX2_processBlock_237 : decode cX2_processBlock 237 = .ok (.istore 12, 2) := dk_54 12 (dk_at dksX2_processBlock_10 1 rfl rfl)
theorem dX2_processBlock_239 : decode cX2_processBlock 239 = .ok (.iload 12, 2) := dk_21 12 (dk_at dksX2_processBlock_10 3 rfl rfl)
theorem dX2_processBlock_241 : decode cX2_processBlock 241 = .ok (.iload 10, 2) := dk_21 10 (dk_at dksX2_processBlock_10 5 rfl rfl)
theorem dX2_processBlock_243 : decode cX2_processBlock 243 = .ok (.ixor, 1) := dk_130 (dk_at dksX2_processBlock_10 7 rfl rfl)
theorem dX2_processBlock_244 : decode cX2_processBlock 244 = .ok (.istore 13, 2) := dk_54 13 (dk_at dksX2_processBlock_10 8 rfl rfl)
theorem dX2_processBlock_246 : decode cX2_processBlock 246 = .ok (.aload_n 0, 1) := dk_42 (dk_at dksX2_processBlock_10 10 rfl rfl)
theorem dX2_processBlock_247 : decode cX2_processBlock 247 = .ok (.getfield 23, 3) := dk_180 0 23 (dk_at dksX2_processBlock_10 11 rfl rfl)
theorem dX2_processBlock_250 : decode cX2_processBlock 250 = .ok (.iload 9, 2) := dk_21 9 (dk_at dksX2_processBlock_10 14 rfl rfl)
theorem dX2_processBlock_252 : decode cX2_processBlock 252 = .ok (.iaload, 1) := dk_46 (dk_at dksX2_processBlock_10 16 rfl rfl)
theorem dX2_processBlock_253 : decode cX2_processBlock 253 = .ok (.istore 14, 2) := dk_54 14 (dk_at dksX2_processBlock_10 17 rfl rfl)
theorem dX2_processBlock_255 : decode cX2_processBlock 255 = .ok (.iload 14, 2) := dk_21 14 (dk_at dksX2_processBlock_10 19 rfl rfl)
theorem dX2_processBlock_257 : decode cX2_processBlock 257 = .ok (.aload_n 0, 1) := dk_42 (dk_at dksX2_processBlock_10 21 rfl rfl)
theorem dX2_processBlock_258 : decode cX2_processBlock 258 = .ok (.getfield 23, 3) := dk_180 0 23 (dk_at dksX2_processBlock_11 0 rfl rfl)
theorem dX2_processBlock_261 : decode cX2_processBlock 261 = .ok (.iload 9, 2) := dk_21 9 (dk_at dksX2_processBlock_11 3 rfl rfl)
theorem dX2_processBlock_263 : decode cX2_processBlock 263 = .ok (.iconst 4, 1) := dk_7 (dk_at dksX2_processBlock_11 5 rfl rfl)
theorem dX2_processBlock_264 : decode cX2_processBlock 264 = .ok (.iadd, 1) := dk_96 (dk_at dksX2_processBlock_11 6 rfl rfl)
theorem dX2_processBlock_265 : decode cX2_processBlock 265 = .ok (.iaload, 1) := dk_46 (dk_at dksX2_processBlock_11 7 rfl rfl)
theorem dX2_processBlock_266 : decode cX2_processBlock 266 = .ok (.ixor, 1) := dk_130 (dk_at dksX2_processBlock_11 8 rfl rfl)
theorem dX2_processBlock_267 : decode cX2_processBlock 267 = .ok (.istore 15, 2) := dk_54 15 (dk_at dksX2_processBlock_11 9 rfl rfl)
theorem dX2_processBlock_269 : decode cX2_processBlock 269 = .ok (.aload_n 0, 1) := dk_42 (dk_at dksX2_processBlock_11 11 rfl rfl)
theorem dX2_processBlock_270 : decode cX2_processBlock 270 = .ok (.iload_n 1, 1) := dk_27 (dk_at dksX2_processBlock_11 12 rfl rfl)
theorem dX2_processBlock_271 : decode cX2_processBlock 271 = .ok (.iload_n 2, 1) := dk_28 (dk_at dksX2_processBlock_11 13 rfl rfl)
theorem dX2_processBlock_272 : decode cX2_processBlock 272 = .ok (.iload_n 3, 1) := dk_29 (dk_at dksX2_processBlock_11 14 rfl rfl)
theorem dX2_processBlock_273 : decode cX2_processBlock 273 = .ok (.invokevirtual 66, 3) := dk_182 0 66 (dk_at dksX2_processBlock_11 15 rfl rfl)
theorem dX2_processBlock_276 : decode cX2_processBlock 276 = .ok (.iload 4, 2) := dk_21 4 (dk_at dksX2_processBlock_11 18 rfl rfl)
theorem dX2_processBlock_278 : decode cX2_processBlock 278 = .ok (.iadd, 1) := dk_96 (dk_at dksX2_processBlock_11 20 rfl rfl)
theorem dX2_processBlock_279 : decode cX2_processBlock 279 = .ok (.iload 13, 2) := dk_21 13 (dk_at dksX2_processBlock_11 21 rfl rfl)
theorem dX2_processBlock_281 : decode cX2_processBlock 281 = .ok (.iadd, 1) := dk_96 (dk_at dksX2_processBlock_11 23 rfl rfl)
theorem dX2_processBlock_282 : decode cX2_processBlock 282 = .ok (.iload 15, 2) := dk_21 15 (dk_at dksX2_processBlock_12 0 rfl rfl)
theorem dX2_processBlock_284 : decode cX2_processBlock 284 = .ok (.iadd, 1) := dk_96 (dk_at dksX2_processBlock_12 2 rfl rfl)
theorem dX2_processBlock_285 : decode cX2_processBlock 285 = .ok (.istore 16, 2) := dk_54 16 (dk_at dksX2_processBlock_12 3 rfl rfl)
theorem dX2_processBlock_287 : decode cX2_processBlock 287 = .ok (.aload_n 0, 1) := dk_42 (dk_at dksX2_processBlock_12 5 rfl rfl)
theorem dX2_processBlock_288 : decode cX2_processBlock 288 = .ok (.iload 5, 2) := dk_21 5 (dk_at dksX2_processBlock_12 6 rfl rfl)
theorem dX2_processBlock_290 : decode cX2_processBlock 290 = .ok (.iload 6, 2) := dk_21 6 (dk_at dksX2_processBlock_12 8 rfl rfl)
theorem dX2_processBlock_292 : decode cX2_processBlock 292 = .ok (.iload 7, 2) := dk_21 7 (dk_at dksX2_processBlock_12 10 rfl rfl)
theorem dX2_processBlock_294 : decode cX2_processBlock 294 = .ok (.invokevirtual 70, 3) := dk_182 0 70 (dk_at dksX2_processBlock_12 12 rfl rfl)
theorem dX2_processBlock_297 : decode cX2_processBlock 297 = .ok (.iload 8, 2) := dk_21 8 (dk_at dksX2_processBlock_12 15 rfl rfl)
theorem dX2_processBlock_299 : decode cX2_processBlock 299 = .ok (.iadd, 1) := dk_96 (dk_at dksX2_processBlock_12 17 rfl rfl)
theorem dX2_processBlock_300 : decode cX2_processBlock 300 = .ok (.iload 12, 2) := dk_21 12 (dk_at dksX2_processBlock_12 18 rfl rfl)
theorem dX2_processBlock_302 : decode cX2_processBlock 302 = .ok (.iadd, 1) := dk_96 (dk_at dksX2_processBlock_12 20 rfl rfl)
theorem dX2_processBlock_303 : decode cX2_processBlock 303 = .ok (.iload 14, 2) := dk_21 14 (dk_at dksX2_processBlock_12 21 rfl rfl)
theorem dX2_processBlock_305 : decode cX2_processBlock 305 = .ok (.iadd, 1) := dk_96 (dk_at dksX2_processBlock_12 23 rfl rfl)
theorem dX2_processBlock_306 : decode cX2_processBlock 306 = .ok (.istore 17, 2) := dk_54 17 (dk_at dksX2_processBlock_13 0 rfl rfl)
theorem dX2_processBlock_308 : decode cX2_processBlock 308 = .ok (.iload_n 3, 1) := dk_29 (dk_at dksX2_processBlock_13 2 rfl rfl)
theorem dX2_processBlock_309 : decode cX2_processBlock 309 = .ok (.istore 4, 2) := dk_54 4 (dk_at dksX2_processBlock_13 3 rfl rfl)
theorem dX2_processBlock_311 : decode cX2_processBlock 311 = .ok (.iload_n 2, 1) := dk_28 (dk_at dksX2_processBlock_13 5 rfl rfl)
theorem dX2_processBlock_312 : decode cX2_processBlock 312 = .ok (.bipush 9, 2) := dk_16 9 (dk_at dksX2_processBlock_13 6 rfl rfl)
theorem dX2_processBlock_314 : decode cX2_processBlock 314 = .ok (.ishl, 1) := dk_120 (dk_at dksX2_processBlock_13 8 rfl rfl)
theorem dX2_processBlock_315 : decode cX2_processBlock 315 = .ok (.iload_n 2, 1) := dk_28 (dk_at dksX2_processBlock_13 9 rfl rfl)
theorem dX2_processBlock_316 : decode cX2_processBlock 316 = .ok (.bipush 23, 2) := dk_16 23 (dk_at dksX2_processBlock_13 10 rfl rfl)
theorem dX2_processBlock_318 : decode cX2_processBlock 318 = .ok (.iushr, 1) := dk_124 (dk_at dksX2_processBlock_13 12 rfl rfl)
theorem dX2_processBlock_319 : decode cX2_processBlock 319 = .ok (.ior, 1) := dk_128 (dk_at dksX2_processBlock_13 13 rfl rfl)
theorem dX2_processBlock_320 : decode cX2_processBlock 320 = .ok (.istore_n 3, 1) := dk_62 (dk_at dksX2_processBlock_13 14 rfl rfl)
theorem dX2_processBlock_321 : decode cX2_processBlock 321 = .ok (.iload_n 1, 1) := dk_27 (dk_at dksX2_processBlock_13 15 rfl rfl)
theorem dX2_processBlock_322 : decode cX2_processBlock 322 = .ok (.istore_n 2, 1) := dk_61 (dk_at dksX2_processBlock_13 16 rfl rfl)
theorem dX2_processBlock_323 : decode cX2_processBlock 323 = .ok (.iload 16, 2) := dk_21 16 (dk_at dksX2_processBlock_13 17 rfl rfl)
theorem dX2_processBlock_325 : decode cX2_processBlock 325 = .ok (.istore_n 1, 1) := dk_60 (dk_at dksX2_processBlock_13 19 rfl rfl)
theorem dX2_processBlock_326 : decode cX2_processBlock 326 = .ok (.iload 7, 2) := dk_21 7 (dk_at dksX2_processBlock_13 20 rfl rfl)
theorem dX2_processBlock_328 : decode cX2_processBlock 328 = .ok (.istore 8, 2) := dk_54 8 (dk_at dksX2_processBlock_13 22 rfl rfl)
theorem dX2_processBlock_330 : decode cX2_processBlock 330 = .ok (.iload 6, 2) := dk_21 6 (dk_at dksX2_processBlock_14 0 rfl rfl)
theorem dX2_processBlock_332 : decode cX2_processBlock 332 = .ok (.bipush 19, 2) := dk_16 19 (dk_at dksX2_processBlock_14 2 rfl rfl)
theorem dX2_processBlock_334 : decode cX2_processBlock 334 = .ok (.ishl, 1) := dk_120 (dk_at dksX2_processBlock_14 4 rfl rfl)
theorem dX2_processBlock_335 : decode cX2_processBlock 335 = .ok (.iload 6, 2) := dk_21 6 (dk_at dksX2_processBlock_14 5 rfl rfl)
theorem dX2_processBlock_337 : decode cX2_processBlock 337 = .ok (.bipush 13, 2) := dk_16 13 (dk_at dksX2_processBlock_14 7 rfl rfl)
theorem dX2_processBlock_339 : decode cX2_processBlock 339 = .ok (.iushr, 1) := dk_124 (dk_at dksX2_processBlock_14 9 rfl rfl)
theorem dX2_processBlock_340 : decode cX2_processBlock 340 = .ok (.ior, 1) := dk_128 (dk_at dksX2_processBlock_14 10 rfl rfl)
theorem dX2_processBlock_341 : decode cX2_processBlock 341 = .ok (.istore 7, 2) := dk_54 7 (dk_at dksX2_processBlock_14 11 rfl rfl)
theorem dX2_processBlock_343 : decode cX2_processBlock 343 = .ok (.iload 5, 2) := dk_21 5 (dk_at dksX2_processBlock_14 13 rfl rfl)
theorem dX2_processBlock_345 : decode cX2_processBlock 345 = .ok (.istore 6, 2) := dk_54 6 (dk_at dksX2_processBlock_14 15 rfl rfl)
theorem dX2_processBlock_347 : decode cX2_processBlock 347 = .ok (.aload_n 0, 1) := dk_42 (dk_at dksX2_processBlock_14 17 rfl rfl)
theorem dX2_processBlock_348 : decode cX2_processBlock 348 = .ok (.iload 17, 2) := dk_21 17 (dk_at dksX2_processBlock_14 18 rfl rfl)
theorem dX2_processBlock_350 : decode cX2_processBlock 350 = .ok (.invokevirtual 73, 3) := dk_182 0 73 (dk_at dksX2_processBlock_14 20 rfl rfl)
theorem dX2_processBlock_353 : decode cX2_processBlock 353 = .ok (.istore 5, 2) := dk_54 5 (dk_at dksX2_processBlock_15 0 rfl rfl)
theorem dX2_processBlock_355 : decode cX2_processBlock 355 = .ok (.iinc 9 1, 3) := dk_132 9 1 (dk_at dksX2_processBlock_15 2 rfl rfl)
theorem dX2_processBlock_358 : decode cX2_processBlock 358 = .ok (.goto (-164), 3) := dk_167 255 92 (dk_at dksX2_processBlock_15 5 rfl rfl)
theorem dX2_processBlock_361 : decode cX2_processBlock 361 = .ok (.bipush 16, 2) := dk_16 16 (dk_at dksX2_processBlock_15 8 rfl rfl)
theorem dX2_processBlock_363 : decode cX2_processBlock 363 = .ok (.istore 9, 2) := dk_54 9 (dk_at dksX2_processBlock_15 10 rfl rfl)
theorem dX2_processBlock_365 : decode cX2_processBlock 365 = .ok (.iload 9, 2) := dk_21 9 (dk_at dksX2_processBlock_15 12 rfl rfl)
theorem dX2_processBlock_367 : decode cX2_processBlock 367 = .ok (.bipush 64, 2) := dk_16 64 (dk_at dksX2_processBlock_15 14 rfl rfl)
theorem dX2_processBlock_369 : decode cX2_processBlock 369 = .ok (.if_icmp .ge 163, 3) := dk_162 0 163 (dk_at dksX2_processBlock_15 16 rfl rfl)
theorem dX2_processBlock_372 : decode cX2_processBlock 372 = .ok (.iload_n 1, 1) := dk_27 (dk_at dksX2_processBlock_15 19 rfl rfl)
theorem dX2_processBlock_373 : decode cX2_processBlock 373 = .ok (.bipush 12, 2) := dk_16 12 (dk_at dksX2_processBlock_15 20 rfl rfl)
theorem dX2_processBlock_375 : decode cX2_processBlock 375 = .ok (.ishl, 1) := dk_120 (dk_at dksX2_processBlock_15 22 rfl rfl)
theorem dX2_processBlock_376 : decode cX2_processBlock 376 = .ok (.iload_n 1, 1) := dk_27 (dk_at dksX2_processBlock_15 23 rfl rfl)
theorem dX2_processBlock_377 : decode cX2_processBlock 377 = .ok (.bipush 20, 2) := dk_16 20 (dk_at dksX2_processBlock_16 0 rfl rfl)
theorem dX2_processBlock_379 : decode cX2_processBlock 379 = .ok (.iushr, 1) := dk_124 (dk_at dksX2_processBlock_16 2 rfl rfl)
theorem dX2_processBlock_380 : decode cX2_processBlock 380 = .ok (.ior, 1) := dk_128 (dk_at dksX2_processBlock_16 3 rfl rfl)
theorem dX2_processBlock_381 : decode cX2_processBlock 381 = .ok (.istore 10, 2) := dk_54 10 (dk_at dksX2_processBlock_16 4 rfl rfl)
theorem dX2_processBlock_383 : decode cX2_processBlock 383 = .ok (.iload 10, 2) := dk_21 10 (dk_at dksX2_processBlock_16 6 rfl rfl)
theorem dX2_processBlock_385 : decode cX2_processBlock 385 = .ok (.iload 5, 2) := dk_21 5 (dk_at dksX2_processBlock_16 8 rfl rfl)
theorem dX2_processBlock_387 : decode cX2_processBlock 387 = .ok (.iadd, 1) := dk_96 (dk_at dksX2_processBlock_16 10 rfl rfl)
theorem dX2_processBlock_388 : decode cX2_processBlock 388 = .ok (.getstatic 63, 3) := dk_178 0 63 (dk_at dksX2_processBlock_16 11 rfl rfl)
theorem dX2_processBlock_391 : decode cX2_processBlock 391 = .ok (.iload 9, 2) := dk_21 9 (dk_at dksX2_processBlock_16 14 rfl rfl)
theorem dX2_processBlock_393 : decode cX2_processBlock 393 = .ok (.iaload, 1) := dk_46 (dk_at dksX2_processBlock_16 16 rfl rfl)
theorem dX2_processBlock_394 : decode cX2_processBlock 394 = .ok (.iadd, 1) := dk_96 (dk_at dksX2_processBlock_16 17 rfl rfl)
theorem dX2_processBlock_395 : decode cX2_processBlock 395 = .ok (.istore 11, 2) := dk_54 11 (dk_at dksX2_processBlock_16 18 rfl rfl)
theorem dX2_processBlock_397 : decode cX2_processBlock 397 = .ok (.iload 11, 2) := dk_21 11 (dk_at dksX2_processBlock_16 20 rfl rfl)
theorem dX2_processBlock_399 : decode cX2_processBlock 399 = .ok (.bipush 7, 2) := dk_16 7 (dk_at dksX2_processBlock_16 22 rfl rfl)
theorem dX2_processBlock_401 : decode cX2_processBlock 401 = .ok (.ishl, 1) := dk_120 (dk_at dksX2_processBlock_17 0 rfl rfl)
theorem dX2_processBlock_402 : decode cX2_processBlock 402 = .ok (.iload 11, 2) := dk_21 11 (dk_at dksX2_processBlock_17 1 rfl rfl)
theorem dX2_processBlock_404 : decode cX2_processBlock 404 = .ok (.bipush 25, 2) := dk_16 25 (dk_at dksX2_processBlock_17 3 rfl rfl)
theorem dX2_processBlock_406 : decode cX2_processBlock 406 = .ok (.iushr, 1) := dk_124 (dk_at dksX2_processBlock_17 5 rfl rfl)
theorem dX2_processBlock_407 : decode cX2_processBlock 407 = .ok (.ior, 1) := dk_128 (dk_at dksX2_processBlock_17 6 rfl rfl)
theorem dX2_processBlock_408 : decode cX2_processBlock 408 = .ok (.istore 12, 2) := dk_54 12 (dk_at dksX2_processBlock_17 7 rfl rfl)
theorem dX2_processBlock_410 : decode cX2_processBlock 410 = .ok (.iload 12, 2) := dk_21 12 (dk_at dksX2_processBlock_17 9 rfl rfl)
theorem dX2_processBlock_412 : decode cX2_processBlock 412 = .ok (.iload 10, 2) := dk_21 10 (dk_at dksX2_processBlock_17 11 rfl rfl)
theorem dX2_processBlock_414 : decode cX2_processBlock 414 = .ok (.ixor, 1) := dk_130 (dk_at dksX2_processBlock_17 13 rfl rfl)
theorem dX2_processBlock_415 : decode cX2_processBlock 415 = .ok (.istore 13, 2) := dk_54 13 (dk_at dksX2_processBlock_17 14 rfl rfl)
theorem dX2_processBlock_417 : decode cX2_processBlock 417 = .ok (.aload_n 0, 1) := dk_42 (dk_at dksX2_processBlock_17 16 rfl rfl)
theorem dX2_processBlock_418 : decode cX2_processBlock 418 = .ok (.getfield 23, 3) := dk_180 0 23 (dk_at dksX2_processBlock_17 17 rfl rfl)
theorem dX2_processBlock_421 : decode cX2_processBlock 421 = .ok (.iload 9, 2) := dk_21 9 (dk_at dksX2_processBlock_17 20 rfl rfl)
theorem dX2_processBlock_423 : decode cX2_processBlock 423 = .ok (.iaload, 1) := dk_46 (dk_at dksX2_processBlock_17 22 rfl rfl)
theorem dX2_processBlock_424 : decode cX2_processBlock 424 = .ok (.istore 14, 2) := dk_54 14 (dk_at dksX2_processBlock_18 0 rfl rfl)
theorem dX2_processBlock_426 : decode cX2_processBlock 426 = .ok (.iload 14, 2) := dk_21 14 (dk_at dksX2_processBlock_18 2 rfl rfl)
theorem dX2_processBlock_428 : decode cX2_processBlock 428 = .ok (.aload_n 0, 1) := dk_42 (dk_at dksX2_processBlock_18 4 rfl rfl)
theorem dX2_processBlock_429 : decode cX2_processBlock 429 = .ok (.getfield 23, 3) := dk_180 0 23 (dk_at dksX2_processBlock_18 5 rfl rfl)
theorem dX2_processBlock_432 : decode cX2_processBlock 432 = .ok (.iload 9, 2) := dk_21 9 (dk_at dksX2_processBlock_18 8 rfl rfl)
theorem dX2_processBlock_434 : decode cX2_processBlock 434 = .ok (.iconst 4, 1) := dk_7 (dk_at dksX2_processBlock_18 10 rfl rfl)
theorem dX2_processBlock_435 : decode cX2_processBlock 435 = .ok (.iadd, 1) := dk_96 (dk_at dksX2_processBlock_18 11 rfl rfl)
theorem dX2_processBlock_436 : decode cX2_processBlock 436 = .ok (.iaload, 1) := dk_46 (dk_at dksX2_processBlock_18 12 rfl rfl)
theorem dX2_processBlock_437 : decode cX2_processBlock 437 = .ok (.ixor, 1) := dk_130 (dk_at dksX2_processBlock_18 13 rfl rfl)
theorem dX2_processBlock_438 : decode cX2_processBlock 438 = .ok (.istore 15, 2) := dk_54 15 (dk_at dksX2_processBlock_18 14 rfl rfl)
theorem dX2_processBlock_440 : decode cX2_processBlock 440 = .ok (.aload_n 0, 1) := dk_42 (dk_at dksX2_processBlock_18 16 rfl rfl)
theorem dX2_processBlock_441 : decode cX2_processBlock 441 = .ok (.iload_n 1, 1) := dk_27 (dk_at dksX2_processBlock_18 17 rfl rfl)
theorem dX2_processBlock_442 : decode cX2_processBlock 442 = .ok (.iload_n 2, 1) := dk_28 (dk_at dksX2_processBlock_18 18 rfl rfl)
theorem dX2_processBlock_443 : decode cX2_processBlock 443 = .ok (.iload_n 3, 1) := dk_29 (dk_at dksX2_processBlock_18 19 rfl rfl)
theorem dX2_processBlock_444 : decode cX2_processBlock 444 = .ok (.invokevirtual 76, 3) := dk_182 0 76 (dk_at dksX2_processBlock_18 20 rfl rfl)
theorem dX2_processBlock_447 : decode cX2_processBlock 447 = .ok (.iload 4, 2) := dk_21 4 (dk_at dksX2_processBlock_19 0 rfl rfl)
theorem dX2_processBlock_449 : decode cX2_processBlock 449 = .ok (.iadd, 1) := dk_96 (dk_at dksX2_processBlock_19 2 rfl rfl)
theorem dX2_processBlock_450 : decode cX2_processBlock 450 = .ok (.iload 13, 2) := dk_21 13 (dk_at dksX2_processBlock_19 3 rfl rfl)
theorem dX2_processBlock_452 : decode cX2_processBlock 452 = .ok (.iadd, 1) := dk_96 (dk_at dksX2_processBlock_19 5 rfl rfl)
theorem dX2_processBlock_453 : decode cX2_processBlock 453 = .ok (.iload 15, 2) := dk_21 15 (dk_at dksX2_processBlock_19 6 rfl rfl)
theorem dX2_processBlock_455 : decode cX2_processBlock 455 = .ok (.iadd, 1) := dk_96 (dk_at dksX2_processBlock_19 8 rfl rfl)
theorem dX2_processBlock_456 : decode cX2_processBlock 456 = .ok (.istore 16, 2) := dk_54 16 (dk_at dksX2_processBlock_19 9 rfl rfl)
theorem dX2_processBlock_458 : decode cX2_processBlock 458 = .ok (.aload_n 0, 1) := dk_42 (dk_at dksX2_processBlock_19 11 rfl rfl)
theorem dX2_processBlock_459 : decode cX2_processBlock 459 = .ok (.iload 5, 2) := dk_21 5 (dk_at dksX2_processBlock_19 12 rfl rfl)
theorem dX2_processBlock_461 : decode cX2_processBlock 461 = .ok (.iload 6, 2) := dk_21 6 (dk_at dksX2_processBlock_19 14 rfl rfl)
theorem dX2_processBlock_463 : decode cX2_processBlock 463 = .ok (.iload 7, 2) := dk_21 7 (dk_at dksX2_processBlock_19 16 rfl rfl)
theorem dX2_processBlock_465 : decode cX2_processBlock 465 = .ok (.invokevirtual 79, 3) := dk_182 0 79 (dk_at dksX2_processBlock_19 18 rfl rfl)
theorem dX2_processBlock_468 : decode cX2_processBlock 468 = .ok (.iload 8, 2) := dk_21 8 (dk_at dksX2_processBlock_19 21 rfl rfl)
theorem dX2_processBlock_470 : decode cX2_processBlock 470 = .ok (.iadd, 1) := dk_96 (dk_at dksX2_processBlock_19 23 rfl rfl)
theorem dX2_processBlock_471 : decode cX2_processBlock 471 = .ok (.iload 12, 2) := dk_21 12 (dk_at dksX2_processBlock_20 0 rfl rfl)
theorem dX2_processBlock_473 : decode cX2_processBlock 473 = .ok (.iadd, 1) := dk_96 (dk_at dksX2_processBlock_20 2 rfl rfl)
theorem dX2_processBlock_474 : decode cX2_processBlock 474 = .ok (.iload 14, 2) := dk_21 14 (dk_at dksX2_processBlock_20 3 rfl rfl)
theorem dX2_processBlock_476 : decode cX2_processBlock 476 = .ok (.iadd, 1) := dk_96 (dk_at dksX2_processBlock_20 5 rfl rfl)
theorem dX2_processBlock_477 : decode cX2_processBlock 477 = .ok (.istore 17, 2) := dk_54 17 (dk_at dksX2_processBlock_20 6 rfl rfl)
theorem dX2_processBlock_479 : decode cX2_processBlock 479 = .ok (.iload_n 3, 1) := dk_29 (dk_at dksX2_processBlock_20 8 rfl rfl)
theorem dX2_processBlock_480 : decode cX2_processBlock 480 = .ok (.istore 4, 2) := dk_54 4 (dk_at dksX2_processBlock_20 9 rfl rfl)
theorem dX2_processBlock_482 : decode cX2_processBlock 482 = .ok (.iload_n 2, 1) := dk_28 (dk_at dksX2_processBlock_20 11 rfl rfl)
theorem dX2_processBlock_483 : decode cX2_processBlock 483 = .ok (.bipush 9, 2) := dk_16 9 (dk_at dksX2_processBlock_20 12 rfl rfl)
theorem dX2_processBlock_485 : decode cX2_processBlock 485 = .ok (.ishl, 1) := dk_120 (dk_at dksX2_processBlock_20 14 rfl rfl)
theorem dX2_processBlock_486 : decode cX2_processBlock 486 = .ok (.iload_n 2, 1) := dk_28 (dk_at dksX2_processBlock_20 15 rfl rfl)
theorem dX2_processBlock_487 : decode cX2_processBlock 487 = .ok (.bipush 23, 2) := dk_16 23 (dk_at dksX2_processBlock_20 16 rfl rfl)
theorem dX2_processBlock_489 : decode cX2_processBlock 489 = .ok (.iushr, 1) := dk_124 (dk_at dksX2_processBlock_20 18 rfl rfl)
theorem dX2_processBlock_490 : decode cX2_processBlock 490 = .ok (.ior, 1) := dk_128 (dk_at dksX2_processBlock_20 19 rfl rfl)
theorem dX2_processBlock_491 : decode cX2_processBlock 491 = .ok (.istore_n 3, 1) := dk_62 (dk_at dksX2_processBlock_20 20 rfl rfl)
theorem dX2_processBlock_492 : decode cX2_processBlock 492 = .ok (.iload_n 1, 1) := dk_27 (dk_at dksX2_processBlock_20 21 rfl rfl)
theorem dX2_processBlock_493 : decode cX2_processBlock 493 = .ok (.istore_n 2, 1) := dk_61 (dk_at dksX2_processBlock_20 22 rfl rfl)
theorem dX2_processBlock_494 : decode cX2_processBlock 494 = .ok (.iload 16, 2) := dk_21 16 (dk_at dksX2_processBlock_21 0 rfl rfl)
theorem dX2_processBlock_496 : decode cX2_processBlock 496 = .ok (.istore_n 1, 1) := dk_60 (dk_at dksX2_processBlock_21 2 rfl rfl)
theorem dX2_processBlock_497 : decode cX2_processBlock 497 = .ok (.iload 7, 2) := dk_21 7 (dk_at dksX2_processBlock_21 3 rfl rfl)
theorem dX2_processBlock_499 : decode cX2_processBlock 499 = .ok (.istore 8, 2) := dk_54 8 (dk_at dksX2_processBlock_21 5 rfl rfl)
theorem dX2_processBlock_501 : decode cX2_processBlock 501 = .ok (.iload 6, 2) := dk_21 6 (dk_at dksX2_processBlock_21 7 rfl rfl)
theorem dX2_processBlock_503 : decode cX2_processBlock 503 = .ok (.bipush 19, 2) := dk_16 19 (dk_at dksX2_processBlock_21 9 rfl rfl)
theorem dX2_processBlock_505 : decode cX2_processBlock 505 = .ok (.ishl, 1) := dk_120 (dk_at dksX2_processBlock_21 11 rfl rfl)
theorem dX2_processBlock_506 : decode cX2_processBlock 506 = .ok (.iload 6, 2) := dk_21 6 (dk_at dksX2_processBlock_21 12 rfl rfl)
theorem dX2_processBlock_508 : decode cX2_processBlock 508 = .ok (.bipush 13, 2) := dk_16 13 (dk_at dksX2_processBlock_21 14 rfl rfl)
theorem dX2_processBlock_510 : decode cX2_processBlock 510 = .ok (.iushr, 1) := dk_124 (dk_at dksX2_processBlock_21 16 rfl rfl)
theorem dX2_processBlock_511 : decode cX2_processBlock 511 = .ok (.ior, 1) := dk_128 (dk_at dksX2_processBlock_21 17 rfl rfl)
theorem dX2_processBlock_512 : decode cX2_processBlock 512 = .ok (.istore 7, 2) := dk_54 7 (dk_at dksX2_processBlock_21 18 rfl rfl)
theorem dX2_processBlock_514 : decode cX2_processBlock 514 = .ok (.iload 5, 2) := dk_21 5 (dk_at dksX2_processBlock_21 20 rfl rfl)
theorem dX2_processBlock_516 : decode cX2_processBlock 516 = .ok (.istore 6, 2) := dk_54 6 (dk_at dksX2_processBlock_21 22 rfl rfl)
theorem dX2_processBlock_518 : decode cX2_processBlock 518 = .ok (.aload_n 0, 1) := dk_42 (dk_at dksX2_processBlock_22 0 rfl rfl)
theorem dX2_processBlock_519 : decode cX2_processBlock 519 = .ok (.iload 17, 2) := dk_21 17 (dk_at dksX2_processBlock_22 1 rfl rfl)
theorem dX2_processBlock_521 : decode cX2_processBlock 521 = .ok (.invokevirtual 73, 3) := dk_182 0 73 (dk_at dksX2_processBlock_22 3 rfl rfl)
theorem dX2_processBlock_524 : decode cX2_processBlock 524 = .ok (.istore 5, 2) := dk_54 5 (dk_at dksX2_processBlock_22 6 rfl rfl)
theorem dX2_processBlock_526 : decode cX2_processBlock 526 = .ok (.iinc 9 1, 3) := dk_132 9 1 (dk_at dksX2_processBlock_22 8 rfl rfl)
theorem dX2_processBlock_529 : decode cX2_processBlock 529 = .ok (.goto (-164), 3) := dk_167 255 92 (dk_at dksX2_processBlock_22 11 rfl rfl)
theorem dX2_processBlock_532 : decode cX2_processBlock 532 = .ok (.aload_n 0, 1) := dk_42 (dk_at dksX2_processBlock_22 14 rfl rfl)
theorem dX2_processBlock_533 : decode cX2_processBlock 533 = .ok (.getfield 16, 3) := dk_180 0 16 (dk_at dksX2_processBlock_22 15 rfl rfl)
theorem dX2_processBlock_536 : decode cX2_processBlock 536 = .ok (.iconst 0, 1) := dk_3 (dk_at dksX2_processBlock_22 18 rfl rfl)
theorem dX2_processBlock_537 : decode cX2_processBlock 537 = .ok (.dup2, 1) := dk_92 (dk_at dksX2_processBlock_22 19 rfl rfl)
theorem dX2_processBlock_538 : decode cX2_processBlock 538 = .ok (.iaload, 1) := dk_46 (dk_at dksX2_processBlock_22 20 rfl rfl)
theorem dX2_processBlock_539 : decode cX2_processBlock 539 = .ok (.iload_n 1, 1) := dk_27 (dk_at dksX2_processBlock_22 21 rfl rfl)
theorem dX2_processBlock_540 : decode cX2_processBlock 540 = .ok (.ixor, 1) := dk_130 (dk_at dksX2_processBlock_22 22 rfl rfl)
theorem dX2_processBlock_541 : decode cX2_processBlock 541 = .ok (.iastore, 1) := dk_79 (dk_at dksX2_processBlock_22 23 rfl rfl)
theorem dX2_processBlock_542 : decode cX2_processBlock 542 = .ok (.aload_n 0, 1) := dk_42 (dk_at dksX2_processBlock_23 0 rfl rfl)
theorem dX2_processBlock_543 : decode cX2_processBlock 543 = .ok (.getfield 16, 3) := dk_180 0 16 (dk_at dksX2_processBlock_23 1 rfl rfl)
theorem dX2_processBlock_546 : decode cX2_processBlock 546 = .ok (.iconst 1, 1) := dk_4 (dk_at dksX2_processBlock_23 4 rfl rfl)
theorem dX2_processBlock_547 : decode cX2_processBlock 547 = .ok (.dup2, 1) := dk_92 (dk_at dksX2_processBlock_23 5 rfl rfl)
theorem dX2_processBlock_548 : decode cX2_processBlock 548 = .ok (.iaload, 1) := dk_46 (dk_at dksX2_processBlock_23 6 rfl rfl)
theorem dX2_processBlock_549 : decode cX2_processBlock 549 = .ok (.iload_n 2, 1) := dk_28 (dk_at dksX2_processBlock_23 7 rfl rfl)
theorem dX2_processBlock_550 : decode cX2_processBlock 550 = .ok (.ixor, 1) := dk_130 (dk_at dksX2_processBlock_23 8 rfl rfl)
theorem dX2_processBlock_551 : decode cX2_processBlock 551 = .ok (.iastore, 1) := dk_79 (dk_at dksX2_processBlock_23 9 rfl rfl)
theorem dX2_processBlock_552 : decode cX2_processBlock 552 = .ok (.aload_n 0, 1) := dk_42 (dk_at dksX2_processBlock_23 10 rfl rfl)
theorem dX2_processBlock_553 : decode cX2_processBlock 553 = .ok (.getfield 16, 3) := dk_180 0 16 (dk_at dksX2_processBlock_23 11 rfl rfl)
theorem dX2_processBlock_556 : decode cX2_processBlock 556 = .ok (.iconst 2, 1) := dk_5 (dk_at dksX2_processBlock_23 14 rfl rfl)
theorem dX2_processBlock_557 : decode cX2_processBlock 557 = .ok (.dup2, 1) := dk_92 (dk_at dksX2_processBlock_23 15 rfl rfl)
theorem dX2_processBlock_558 : decode cX2_processBlock 558 = .ok (.iaload, 1) := dk_46 (dk_at dksX2_processBlock_23 16 rfl rfl)
theorem dX2_processBlock_559 : decode cX2_processBlock 559 = .ok (.iload_n 3, 1) := dk_29 (dk_at dksX2_processBlock_23 17 rfl rfl)
theorem dX2_processBlock_560 : decode cX2_processBlock 560 = .ok (.ixor, 1) := dk_130 (dk_at dksX2_processBlock_23 18 rfl rfl)
theorem dX2_processBlock_561 : decode cX2_processBlock 561 = .ok (.iastore, 1) := dk_79 (dk_at dksX2_processBlock_23 19 rfl rfl)
theorem dX2_processBlock_562 : decode cX2_processBlock 562 = .ok (.aload_n 0, 1) := dk_42 (dk_at dksX2_processBlock_23 20 rfl rfl)
theorem dX2_processBlock_563 : decode cX2_processBlock 563 = .ok (.getfield 16, 3) := dk_180 0 16 (dk_at dksX2_processBlock_23 21 rfl rfl)
theorem dX2_processBlock_566 : decode cX2_processBlock 566 = .ok (.iconst 3, 1) := dk_6 (dk_at dksX2_processBlock_24 0 rfl rfl)
theorem dX2_processBlock_567 : decode cX2_processBlock 567 = .ok (.dup2, 1) := dk_92 (dk_at dksX2_processBlock_24 1 rfl rfl)
theorem dX2_processBlock_568 : decode cX2_processBlock 568 = .ok (.iaload, 1) := dk_46 (dk_at dksX2_processBlock_24 2 rfl rfl)
theorem dX2_processBlock_569 : decode cX2_processBlock 569 = .ok (.iload 4, 2) := dk_21 4 (dk_at dksX2_processBlock_24 3 rfl rfl)
theorem dX2_processBlock_571 : decode cX2_processBlock 571 = .ok (.ixor, 1) := dk_130 (dk_at dksX2_processBlock_24 5 rfl rfl)
theorem dX2_processBlock_572 : decode cX2_processBlock 572 = .ok (.iastore, 1) := dk_79 (dk_at dksX2_processBlock_24 6 rfl rfl)
theorem dX2_processBlock_573 : decode cX2_processBlock 573 = .ok (.aload_n 0, 1) := dk_42 (dk_at dksX2_processBlock_24 7 rfl rfl)
theorem dX2_processBlock_574 : decode cX2_processBlock 574 = .ok (.getfield 16, 3) := dk_180 0 16 (dk_at dksX2_processBlock_24 8 rfl rfl)
theorem dX2_processBlock_577 : decode cX2_processBlock 577 = .ok (.iconst 4, 1) := dk_7 (dk_at dksX2_processBlock_24 11 rfl rfl)
theorem dX2_processBlock_578 : decode cX2_processBlock 578 = .ok (.dup2, 1) := dk_92 (dk_at dksX2_processBlock_24 12 rfl rfl)
theorem dX2_processBlock_579 : decode cX2_processBlock 579 = .ok (.iaload, 1) := dk_46 (dk_at dksX2_processBlock_24 13 rfl rfl)
theorem dX2_processBlock_580 : decode cX2_processBlock 580 = .ok (.iload 5, 2) := dk_21 5 (dk_at dksX2_processBlock_24 14 rfl rfl)
theorem dX2_processBlock_582 : decode cX2_processBlock 582 = .ok (.ixor, 1) := dk_130 (dk_at dksX2_processBlock_24 16 rfl rfl)
theorem dX2_processBlock_583 : decode cX2_processBlock 583 = .ok (.iastore, 1) := dk_79 (dk_at dksX2_processBlock_24 17 rfl rfl)
theorem dX2_processBlock_584 : decode cX2_processBlock 584 = .ok (.aload_n 0, 1) := dk_42 (dk_at dksX2_processBlock_24 18 rfl rfl)
theorem dX2_processBlock_585 : decode cX2_processBlock 585 = .ok (.getfield 16, 3) := dk_180 0 16 (dk_at dksX2_processBlock_24 19 rfl rfl)
theorem dX2_processBlock_588 : decode cX2_processBlock 588 = .ok (.iconst 5, 1) := dk_8 (dk_at dksX2_processBlock_24 22 rfl rfl)
theorem dX2_processBlock_589 : decode cX2_processBlock 589 = .ok (.dup2, 1) := dk_92 (dk_at dksX2_processBlock_24 23 rfl rfl)
theorem dX2_processBlock_590 : decode cX2_processBlock 590 = .ok (.iaload, 1) := dk_46 (dk_at dksX2_processBlock_25 0 rfl rfl)
theorem dX2_processBlock_591 : decode cX2_processBlock 591 = .ok (.iload 6, 2) := dk_21 6 (dk_at dksX2_processBlock_25 1 rfl rfl)
theorem dX2_processBlock_593 : decode cX2_processBlock 593 = .ok (.ixor, 1) := dk_130 (dk_at dksX2_processBlock_25 3 rfl rfl)
theorem dX2_processBlock_594 : decode cX2_processBlock 594 = .ok (.iastore, 1) := dk_79 (dk_at dksX2_processBlock_25 4 rfl rfl)
theorem dX2_processBlock_595 : decode cX2_processBlock 595 = .ok (.aload_n 0, 1) := dk_42 (dk_at dksX2_processBlock_25 5 rfl rfl)
theorem dX2_processBlock_596 : decode cX2_processBlock 596 = .ok (.getfield 16, 3) := dk_180 0 16 (dk_at dksX2_processBlock_25 6 rfl rfl)
theorem dX2_processBlock_599 : decode cX2_processBlock 599 = .ok (.bipush 6, 2) := dk_16 6 (dk_at dksX2_processBlock_25 9 rfl rfl)
theorem dX2_processBlock_601 : decode cX2_processBlock 601 = .ok (.dup2, 1) := dk_92 (dk_at dksX2_processBlock_25 11 rfl rfl)
theorem dX2_processBlock_602 : decode cX2_processBlock 602 = .ok (.iaload, 1) := dk_46 (dk_at dksX2_processBlock_25 12 rfl rfl)
theorem dX2_processBlock_603 : decode cX2_processBlock 603 = .ok (.iload 7, 2) := dk_21 7 (dk_at dksX2_processBlock_25 13 rfl rfl)
theorem dX2_processBlock_605 : decode cX2_processBlock 605 = .ok (.ixor, 1) := dk_130 (dk_at dksX2_processBlock_25 15 rfl rfl)
theorem dX2_processBlock_606 : decode cX2_processBlock 606 = .ok (.iastore, 1) := dk_79 (dk_at dksX2_processBlock_25 16 rfl rfl)
theorem dX2_processBlock_607 : decode cX2_processBlock 607 = .ok (.aload_n 0, 1) := dk_42 (dk_at dksX2_processBlock_25 17 rfl rfl)
theorem dX2_processBlock_608 : decode cX2_processBlock 608 = .ok (.getfield 16, 3) := dk_180 0 16 (dk_at dksX2_processBlock_25 18 rfl rfl)
theorem dX2_processBlock_611 : decode cX2_processBlock 611 = .ok (.bipush 7, 2) := dk_16 7 (dk_at dksX2_processBlock_25 21 rfl rfl)
theorem dX2_processBlock_613 : decode cX2_processBlock 613 = .ok (.dup2, 1) := dk_92 (dk_at dksX2_processBlock_25 23 rfl rfl)
theorem dX2_processBlock_614 : decode cX2_processBlock 614 = .ok (.iaload, 1) := dk_46 (dk_at dksX2_processBlock_26 0 rfl rfl)
theorem dX2_processBlock_615 : decode cX2_processBlock 615 = .ok (.iload 8, 2) := dk_21 8 (dk_at dksX2_processBlock_26 1 rfl rfl)
theorem dX2_processBlock_617 : decode cX2_processBlock 617 = .ok (.ixor, 1) := dk_130 (dk_at dksX2_processBlock_26 3 rfl rfl)
theorem dX2_processBlock_618 : decode cX2_processBlock 618 = .ok (.iastore, 1) := dk_79 (dk_at dksX2_processBlock_26 4 rfl rfl)
theorem dX2_processBlock_619 : decode cX2_processBlock 619 = .ok (.aload_n 0, 1) := dk_42 (dk_at dksX2_processBlock_26 5 rfl rfl)
theorem dX2_processBlock_620 : decode cX2_processBlock 620 = .ok (.iconst 0, 1) := dk_3 (dk_at dksX2_processBlock_26 6 rfl rfl)
theorem dX2_processBlock_621 : decode cX2_processBlock 621 = .ok (.putfield 39, 3) := dk_181 0 39 (dk_at dksX2_processBlock_26 7 rfl rfl)
theorem dX2_processBlock_624 : decode cX2_processBlock 624 = .ok (.return_, 1) := dk_177 (dk_at dksX2_processBlock_26 10 rfl rfl)
abbrev cX2_P1 : ByteArray := prog_6_method_8_code
def yX2_P1 : MethodName := ⟨RX2, "P1", "(I)I"⟩
def dkwX2_P1_1 : List UInt8 := [130, 172]
abbrev dktX2_P1_1 : List UInt8 := dkwX2_P1_1 ++ []
def dkwX2_P1_0 : List UInt8 := [27, 16, 15, 120, 27, 16, 17, 124, 128, 61, 27, 16, 23, 120, 27, 16, 9, 124, 128, 62, 27, 28, 130, 29]
abbrev dktX2_P1_0 : List UInt8 := dkwX2_P1_0 ++ dktX2_P1_1
theorem dksX2_P1_0 : cX2_P1.data.toList.drop 0 = dktX2_P1_0 := by decide +kernel
theorem dksX2_P1_1 : cX2_P1.data.toList.drop 24 = dktX2_P1_1 := dk_seg dksX2_P1_0 24 rfl rfl
theorem dX2_P1_0 : decode cX2_P1 0 = .ok (.iload_n 1, 1) := dk_27 (dk_at dksX2_P1_0 0 rfl rfl)
theorem dX2_P1_1 : decode cX2_P1 1 = .ok (.bipush 15, 2) := dk_16 15 (dk_at dksX2_P1_0 1 rfl rfl)
theorem dX2_P1_3 : decode cX2_P1 3 = .ok (.ishl, 1) := dk_120 (dk_at dksX2_P1_0 3 rfl rfl)
theorem dX2_P1_4 : decode cX2_P1 4 = .ok (.iload_n 1, 1) := dk_27 (dk_at dksX2_P1_0 4 rfl rfl)
theorem dX2_P1_5 : decode cX2_P1 5 = .ok (.bipush 17, 2) := dk_16 17 (dk_at dksX2_P1_0 5 rfl rfl)
theorem dX2_P1_7 : decode cX2_P1 7 = .ok (.iushr, 1) := dk_124 (dk_at dksX2_P1_0 7 rfl rfl)
theorem dX2_P1_8 : decode cX2_P1 8 = .ok (.ior, 1) := dk_128 (dk_at dksX2_P1_0 8 rfl rfl)
theorem dX2_P1_9 : decode cX2_P1 9 = .ok (.istore_n 2, 1) := dk_61 (dk_at dksX2_P1_0 9 rfl rfl)
theorem dX2_P1_10 : decode cX2_P1 10 = .ok (.iload_n 1, 1) := dk_27 (dk_at dksX2_P1_0 10 rfl rfl)
theorem dX2_P1_11 : decode cX2_P1 11 = .ok (.bipush 23, 2) := dk_16 23 (dk_at dksX2_P1_0 11 rfl rfl)
theorem dX2_P1_13 : decode cX2_P1 13 = .ok (.ishl, 1) := dk_120 (dk_at dksX2_P1_0 13 rfl rfl)
theorem dX2_P1_14 : decode cX2_P1 14 = .ok (.iload_n 1, 1) := dk_27 (dk_at dksX2_P1_0 14 rfl rfl)
theorem dX2_P1_15 : decode cX2_P1 15 = .ok (.bipush 9, 2) := dk_16 9 (dk_at dksX2_P1_0 15 rfl rfl)
theorem dX2_P1_17 : decode cX2_P1 17 = .ok (.iushr, 1) := dk_124 (dk_at dksX2_P1_0 17 rfl rfl)
theorem dX2_P1_18 : decode cX2_P1 18 = .ok (.ior, 1) := dk_128 (dk_at dksX2_P1_0 18 rfl rfl)
theorem dX2_P1_19 : decode cX2_P1 19 = .ok (.istore_n 3, 1) := dk_62 (dk_at dksX2_P1_0 19 rfl rfl)
theorem dX2_P1_20 : decode cX2_P1 20 = .ok (.iload_n 1, 1) := dk_27 (dk_at dksX2_P1_0 20 rfl rfl)
theorem dX2_P1_21 : decode cX2_P1 21 = .ok (.iload_n 2, 1) := dk_28 (dk_at dksX2_P1_0 21 rfl rfl)
theorem dX2_P1_22 : decode cX2_P1 22 = .ok (.ixor, 1) := dk_130 (dk_at dksX2_P1_0 22 rfl rfl)
theorem dX2_P1_23 : decode cX2_P1 23 = .ok (.iload_n 3, 1) := dk_29 (dk_at dksX2_P1_0 23 rfl rfl)
theorem dX2_P1_24 : decode cX2_P1 24 = .ok (.ixor, 1) := dk_130 (dk_at dksX2_P1_1 0 rfl rfl)
theorem dX2_P1_25 : decode cX2_P1 25 = .ok (.ireturn, 1) := dk_172 (dk_at dksX2_P1_1 1 rfl rfl)
abbrev cX2_FF0 : ByteArray := prog_6_method_9_code
def yX2_FF0 : MethodName := ⟨RX2, "FF0", "(III)I"⟩
def dkwX2_FF0_0 : List UInt8 := [27, 28, 130, 29, 130, 172]
abbrev dktX2_FF0_0 : List UInt8 := dkwX2_FF0_0 ++ []
theorem dksX2_FF0_0 : cX2_FF0.data.toList.drop 0 = dktX2_FF0_0 := by decide +kernel
theorem dX2_FF0_0 : decode cX2_FF0 0 = .ok (.iload_n 1, 1) := dk_27 (dk_at dksX2_FF0_0 0 rfl rfl)
theorem dX2_FF0_1 : decode cX2_FF0 1 = .ok (.iload_n 2, 1) := dk_28 (dk_at dksX2_FF0_0 1 rfl rfl)
theorem dX2_FF0_2 : decode cX2_FF0 2 = .ok (.ixor, 1) := dk_130 (dk_at dksX2_FF0_0 2 rfl rfl)
theorem dX2_FF0_3 : decode cX2_FF0 3 = .ok (.iload_n 3, 1) := dk_29 (dk_at dksX2_FF0_0 3 rfl rfl)
theorem dX2_FF0_4 : decode cX2_FF0 4 = .ok (.ixor, 1) := dk_130 (dk_at dksX2_FF0_0 4 rfl rfl)
theorem dX2_FF0_5 : decode cX2_FF0 5 = .ok (.ireturn, 1) := dk_172 (dk_at dksX2_FF0_0 5 rfl rfl)
abbrev cX2_GG0 : ByteArray := prog_6_method_11_code
def yX2_GG0 : MethodName := ⟨RX2, "GG0", "(III)I"⟩
def dkwX2_GG0_0 : List UInt8 := [27, 28, 130, 29, 130, 172]
abbrev dktX2_GG0_0 : List UInt8 := dkwX2_GG0_0 ++ []
theorem dksX2_GG0_0 : cX2_GG0.data.toList.drop 0 = dktX2_GG0_0 := by decide +kernel
theorem dX2_GG0_0 : decode cX2_GG0 0 = .ok (.iload_n 1, 1) := dk_27 (dk_at dksX2_GG0_0 0 rfl rfl)
theorem dX2_GG0_1 : decode cX2_GG0 1 = .ok (.iload_n 2, 1) := dk_28 (dk_at dksX2_GG0_0 1 rfl rfl)
theorem dX2_GG0_2 : decode cX2_GG0 2 = .ok (.ixor, 1) := dk_130 (dk_at dksX2_GG0_0 2 rfl rfl)
theorem dX2_GG0_3 : decode cX2_GG0 3 = .ok (.iload_n 3, 1) := dk_29 (dk_at dksX2_GG0_0 3 rfl rfl)
theorem dX2_GG0_4 : decode cX2_GG0 4 = .ok (.ixor, 1) := dk_130 (dk_at dksX2_GG0_0 4 rfl rfl)
theorem dX2_GG0_5 : decode cX2_GG0 5 = .ok (.ireturn, 1) := dk_172 (dk_at dksX2_GG0_0 5 rfl rfl)
abbrev cX2_P0 : ByteArray := prog_6_method_7_code
def yX2_P0 : MethodName := ⟨RX2, "P0", "(I)I"⟩
def dkwX2_P0_1 : List UInt8 := [130, 172]
abbrev dktX2_P0_1 : List UInt8 := dkwX2_P0_1 ++ []
def dkwX2_P0_0 : List UInt8 := [27, 16, 9, 120, 27, 16, 23, 124, 128, 61, 27, 16, 17, 120, 27, 16, 15, 124, 128, 62, 27, 28, 130, 29]
abbrev dktX2_P0_0 : List UInt8 := dkwX2_P0_0 ++ dktX2_P0_1
theorem dksX2_P0_0 : cX2_P0.data.toList.drop 0 = dktX2_P0_0 := by decide +kernel
theorem dksX2_P0_1 : cX2_P0.data.toList.drop 24 = dktX2_P0_1 := dk_seg dksX2_P0_0 24 rfl rfl
theorem dX2_P0_0 : decode cX2_P0 0 = .ok (.iload_n 1, 1) := dk_27 (dk_at dksX2_P0_0 0 rfl rfl)
theorem dX2_P0_1 : decode cX2_P0 1 = .ok (.bipush 9, 2) := dk_16 9 (dk_at dksX2_P0_0 1 rfl rfl)
theorem dX2_P0_3 : decode cX2_P0 3 = .ok (.ishl, 1) := dk_120 (dk_at dksX2_P0_0 3 rfl rfl)
theorem dX2_P0_4 : decode cX2_P0 4 = .ok (.iload_n 1, 1) := dk_27 (dk_at dksX2_P0_0 4 rfl rfl)
theorem dX2_P0_5 : decode cX2_P0 5 = .ok (.bipush 23, 2) := dk_16 23 (dk_at dksX2_P0_0 5 rfl rfl)
theorem dX2_P0_7 : decode cX2_P0 7 = .ok (.iushr, 1) := dk_124 (dk_at dksX2_P0_0 7 rfl rfl)
theorem dX2_P0_8 : decode cX2_P0 8 = .ok (.ior, 1) := dk_128 (dk_at dksX2_P0_0 8 rfl rfl)
theorem dX2_P0_9 : decode cX2_P0 9 = .ok (.istore_n 2, 1) := dk_61 (dk_at dksX2_P0_0 9 rfl rfl)
theorem dX2_P0_10 : decode cX2_P0 10 = .ok (.iload_n 1, 1) := dk_27 (dk_at dksX2_P0_0 10 rfl rfl)
theorem dX2_P0_11 : decode cX2_P0 11 = .ok (.bipush 17, 2) := dk_16 17 (dk_at dksX2_P0_0 11 rfl rfl)
theorem dX2_P0_13 : decode cX2_P0 13 = .ok (.ishl, 1) := dk_120 (dk_at dksX2_P0_0 13 rfl rfl)
theorem dX2_P0_14 : decode cX2_P0 14 = .ok (.iload_n 1, 1) := dk_27 (dk_at dksX2_P0_0 14 rfl rfl)
theorem dX2_P0_15 : decode cX2_P0 15 = .ok (.bipush 15, 2) := dk_16 15 (dk_at dksX2_P0_0 15 rfl rfl)
theorem dX2_P0_17 : decode cX2_P0 17 = .ok (.iushr, 1) := dk_124 (dk_at dksX2_P0_0 17 rfl rfl)
theorem dX2_P0_18 : decode cX2_P0 18 = .ok (.ior, 1) := dk_128 (dk_at dksX2_P0_0 18 rfl rfl)
theorem dX2_P0_19 : decode cX2_P0 19 = .ok (.istore_n 3, 1) := dk_62 (dk_at dksX2_P0_0 19 rfl rfl)
theorem dX2_P0_20 : decode cX2_P0 20 = .ok (.iload_n 1, 1) := dk_27 (dk_at dksX2_P0_0 20 rfl rfl)
theorem dX2_P0_21 : decode cX2_P0 21 = .ok (.iload_n 2, 1) := dk_28 (dk_at dksX2_P0_0 21 rfl rfl)
theorem dX2_P0_22 : decode cX2_P0 22 = .ok (.ixor, 1) := dk_130 (dk_at dksX2_P0_0 22 rfl rfl)
theorem dX2_P0_23 : decode cX2_P0 23 = .ok (.iload_n 3, 1) := dk_29 (dk_at dksX2_P0_0 23 rfl rfl)
theorem dX2_P0_24 : decode cX2_P0 24 = .ok (.ixor, 1) := dk_130 (dk_at dksX2_P0_1 0 rfl rfl)
theorem dX2_P0_25 : decode cX2_P0 25 = .ok (.ireturn, 1) := dk_172 (dk_at dksX2_P0_1 1 rfl rfl)
abbrev cX2_FF1 : ByteArray := prog_6_method_10_code
def yX2_FF1 : MethodName := ⟨RX2, "FF1", "(III)I"⟩
def dkwX2_FF1_0 : List UInt8 := [27, 28, 126, 27, 29, 126, 128, 28, 29, 126, 128, 172]
abbrev dktX2_FF1_0 : List UInt8 := dkwX2_FF1_0 ++ []
theorem dksX2_FF1_0 : cX2_FF1.data.toList.drop 0 = dktX2_FF1_0 := by decide +kernel
theorem dX2_FF1_0 : decode cX2_FF1 0 = .ok (.iload_n 1, 1) := dk_27 (dk_at dksX2_FF1_0 0 rfl rfl)
theorem dX2_FF1_1 : decode cX2_FF1 1 = .ok (.iload_n 2, 1) := dk_28 (dk_at dksX2_FF1_0 1 rfl rfl)
theorem dX2_FF1_2 : decode cX2_FF1 2 = .ok (.iand, 1) := dk_126 (dk_at dksX2_FF1_0 2 rfl rfl)
theorem dX2_FF1_3 : decode cX2_FF1 3 = .ok (.iload_n 1, 1) := dk_27 (dk_at dksX2_FF1_0 3 rfl rfl)
theorem dX2_FF1_4 : decode cX2_FF1 4 = .ok (.iload_n 3, 1) := dk_29 (dk_at dksX2_FF1_0 4 rfl rfl)
theorem dX2_FF1_5 : decode cX2_FF1 5 = .ok (.iand, 1) := dk_126 (dk_at dksX2_FF1_0 5 rfl rfl)
theorem dX2_FF1_6 : decode cX2_FF1 6 = .ok (.ior, 1) := dk_128 (dk_at dksX2_FF1_0 6 rfl rfl)
theorem dX2_FF1_7 : decode cX2_FF1 7 = .ok (.iload_n 2, 1) := dk_28 (dk_at dksX2_FF1_0 7 rfl rfl)
theorem dX2_FF1_8 : decode cX2_FF1 8 = .ok (.iload_n 3, 1) := dk_29 (dk_at dksX2_FF1_0 8 rfl rfl)
theorem dX2_FF1_9 : decode cX2_FF1 9 = .ok (.iand, 1) := dk_126 (dk_at dksX2_FF1_0 9 rfl rfl)
theorem dX2_FF1_10 : decode cX2_FF1 10 = .ok (.ior, 1) := dk_128 (dk_at dksX2_FF1_0 10 rfl rfl)
theorem dX2_FF1_11 : decode cX2_FF1 11 = .ok (.ireturn, 1) := dk_172 (dk_at dksX2_FF1_0 11 rfl rfl)
abbrev cX2_GG1 : ByteArray := prog_6_method_12_code
def yX2_GG1 : MethodName := ⟨RX2, "GG1", "(III)I"⟩
def dkwX2_GG1_0 : List UInt8 := [27, 28, 126, 27, 2, 130, 29, 126, 128, 172]
abbrev dktX2_GG1_0 : List UInt8 := dkwX2_GG1_0 ++ []
theorem dksX2_GG1_0 : cX2_GG1.data.toList.drop 0 = dktX2_GG1_0 := by decide +kernel
theorem dX2_GG1_0 : decode cX2_GG1 0 = .ok (.iload_n 1, 1) := dk_27 (dk_at dksX2_GG1_0 0 rfl rfl)
theorem dX2_GG1_1 : decode cX2_GG1 1 = .ok (.iload_n 2, 1) := dk_28 (dk_at dksX2_GG1_0 1 rfl rfl)
theorem dX2_GG1_2 : decode cX2_GG1 2 = .ok (.iand, 1) := dk_126 (dk_at dksX2_GG1_0 2 rfl rfl)
theorem dX2_GG1_3 : decode cX2_GG1 3 = .ok (.iload_n 1, 1) := dk_27 (dk_at dksX2_GG1_0 3 rfl rfl)
theorem dX2_GG1_4 : decode cX2_GG1 4 = .ok (.iconst (-1), 1) := dk_2 (dk_at dksX2_GG1_0 4 rfl rfl)
theorem dX2_GG1_5 : decode cX2_GG1 5 = .ok (.ixor, 1) := dk_130 (dk_at dksX2_GG1_0 5 rfl rfl)
theorem dX2_GG1_6 : decode cX2_GG1 6 = .ok (.iload_n 3, 1) := dk_29 (dk_at dksX2_GG1_0 6 rfl rfl)
theorem dX2_GG1_7 : decode cX2_GG1 7 = .ok (.iand, 1) := dk_126 (dk_at dksX2_GG1_0 7 rfl rfl)
theorem dX2_GG1_8 : decode cX2_GG1 8 = .ok (.ior, 1) := dk_128 (dk_at dksX2_GG1_0 8 rfl rfl)
theorem dX2_GG1_9 : decode cX2_GG1 9 = .ok (.ireturn, 1) := dk_172 (dk_at dksX2_GG1_0 9 rfl rfl)
abbrev cX2_doFinal : ByteArray := prog_6_method_4_code
def yX2_doFinal : MethodName := ⟨RX2, "doFinal", "([BI)I"⟩
def dkwX2_doFinal_0 : List UInt8 := [42, 182, 0, 43, 42, 180, 0, 16, 43, 28, 184, 0, 46, 42, 182, 0, 26, 16, 32, 172]
abbrev dktX2_doFinal_0 : List UInt8 := dkwX2_doFinal_0 ++ []
theorem dksX2_doFinal_0 : cX2_doFinal.data.toList.drop 0 = dktX2_doFinal_0 := by decide +kernel
theorem dX2_doFinal_0 : decode cX2_doFinal 0 = .ok (.aload_n 0, 1) := dk_42 (dk_at dksX2_doFinal_0 0 rfl rfl)
theorem dX2_doFinal_1 : decode cX2_doFinal 1 = .ok (.invokevirtual 43, 3) := dk_182 0 43 (dk_at dksX2_doFinal_0 1 rfl rfl)
theorem dX2_doFinal_4 : decode cX2_doFinal 4 = .ok (.aload_n 0, 1) := dk_42 (dk_at dksX2_doFinal_0 4 rfl rfl)
theorem dX2_doFinal_5 : decode cX2_doFinal 5 = .ok (.getfield 16, 3) := dk_180 0 16 (dk_at dksX2_doFinal_0 5 rfl rfl)
theorem dX2_doFinal_8 : decode cX2_doFinal 8 = .ok (.aload_n 1, 1) := dk_43 (dk_at dksX2_doFinal_0 8 rfl rfl)
theorem dX2_doFinal_9 : decode cX2_doFinal 9 = .ok (.iload_n 2, 1) := dk_28 (dk_at dksX2_doFinal_0 9 rfl rfl)
theorem dX2_doFinal_10 : decode cX2_doFinal 10 = .ok (.invokestatic 46, 3) := dk_184 0 46 (dk_at dksX2_doFinal_0 10 rfl rfl)
theorem dX2_doFinal_13 : decode cX2_doFinal 13 = .ok (.aload_n 0, 1) := dk_42 (dk_at dksX2_doFinal_0 13 rfl rfl)
theorem dX2_doFinal_14 : decode cX2_doFinal 14 = .ok (.invokevirtual 26, 3) := dk_182 0 26 (dk_at dksX2_doFinal_0 14 rfl rfl)
theorem dX2_doFinal_17 : decode cX2_doFinal 17 = .ok (.bipush 32, 2) := dk_16 32 (dk_at dksX2_doFinal_0 17 rfl rfl)
theorem dX2_doFinal_19 : decode cX2_doFinal 19 = .ok (.ireturn, 1) := dk_172 (dk_at dksX2_doFinal_0 19 rfl rfl)
abbrev cX2_processLength : ByteArray := prog_6_method_6_code
def yX2_processLength : MethodName := ⟨RX2, "processLength", "(J)V"⟩
def dkwX2_processLength_4 : List UInt8 := [90, 4, 96, 181, 0, 39, 31, 136, 79, 177]
abbrev dktX2_processLength_4 : List UInt8 := dkwX2_processLength_4 ++ []
def dkwX2_processLength_3 : List UInt8 := [180, 0, 39, 90, 4, 96, 181, 0, 39, 31, 16, 32, 125, 136, 79, 42, 180, 0, 20, 42, 89, 180, 0, 39]
abbrev dktX2_processLength_3 : List UInt8 := dkwX2_processLength_3 ++ dktX2_processLength_4
def dkwX2_processLength_2 : List UInt8 := [180, 0, 39, 3, 79, 42, 89, 180, 0, 39, 4, 96, 181, 0, 39, 167, 255, 227, 42, 180, 0, 20, 42, 89]
abbrev dktX2_processLength_2 : List UInt8 := dkwX2_processLength_2 ++ dktX2_processLength_3
def dkwX2_processLength_1 : List UInt8 := [4, 96, 181, 0, 39, 42, 182, 0, 56, 42, 180, 0, 39, 16, 14, 162, 0, 26, 42, 180, 0, 20, 42]
abbrev dktX2_processLength_1 : List UInt8 := dkwX2_processLength_1 ++ dktX2_processLength_2
def dkwX2_processLength_0 : List UInt8 := [42, 180, 0, 39, 16, 14, 164, 0, 27, 42, 180, 0, 20, 42, 180, 0, 39, 3, 79, 42, 89, 180, 0, 39]
abbrev dktX2_processLength_0 : List UInt8 := dkwX2_processLength_0 ++ dktX2_processLength_1
theorem dksX2_processLength_0 : cX2_processLength.data.toList.drop 0 = dktX2_processLength_0 := by decide +kernel
theorem dksX2_processLength_1 : cX2_processLength.data.toList.drop 24 = dktX2_processLength_1 := dk_seg dksX2_processLength_0 24 rfl rfl
theorem dksX2_processLength_2 : cX2_processLength.data.toList.drop 47 = dktX2_processLength_2 := dk_seg dksX2_processLength_1 23 rfl rfl
theorem dksX2_processLength_3 : cX2_processLength.data.toList.drop 71 = dktX2_processLength_3 := dk_seg dksX2_processLength_2 24 rfl rfl
theorem dksX2_processLength_4 : cX2_processLength.data.toList.drop 95 = dktX2_processLength_4 := dk_seg dksX2_processLength_3 24 rfl rfl
theorem dX2_processLength_0 : decode cX2_processLength 0 = .ok (.aload_n 0, 1) := dk_42 (dk_at dksX2_processLength_0 0 rfl rfl)
theorem dX2_processLength_1 : decode cX2_processLength 1 = .ok (.getfield 39, 3) := dk_180 0 39 (dk_at dksX2_processLength_0 1 rfl rfl)
theorem dX2_processLength_4 : decode cX2_processLength 4 = .ok (.bipush 14, 2) := dk_16 14 (dk_at dksX2_processLength_0 4 rfl rfl)
theorem dX2_processLength_6 : decode cX2_processLength 6 = .ok (.if_icmp .le 27, 3) := dk_164 0 27 (dk_at dksX2_processLength_0 6 rfl rfl)
theorem dX2_processLength_9 : decode cX2_processLength 9 = .ok (.aload_n 0, 1) := dk_42 (dk_at dksX2_processLength_0 9 rfl rfl)
theorem dX2_processLength_10 : decode cX2_processLength 10 = .ok (.getfield 20, 3) := dk_180 0 20 (dk_at dksX2_processLength_0 10 rfl rfl)
theorem dX2_processLength_13 : decode cX2_processLength 13 = .ok (.aload_n 0, 1) := dk_42 (dk_at dksX2_processLength_0 13 rfl rfl)
theorem dX2_processLength_14 : decode cX2_processLength 14 = .ok (.getfield 39, 3) := dk_180 0 39 (dk_at dksX2_processLength_0 14 rfl rfl)
theorem dX2_processLength_17 : decode cX2_processLength 17 = .ok (.iconst 0, 1) := dk_3 (dk_at dksX2_processLength_0 17 rfl rfl)
theorem dX2_processLength_18 : decode cX2_processLength 18 = .ok (.iastore, 1) := dk_79 (dk_at dksX2_processLength_0 18 rfl rfl)
theorem dX2_processLength_19 : decode cX2_processLength 19 = .ok (.aload_n 0, 1) := dk_42 (dk_at dksX2_processLength_0 19 rfl rfl)
theorem dX2_processLength_20 : decode cX2_processLength 20 = .ok (.dup, 1) := dk_89 (dk_at dksX2_processLength_0 20 rfl rfl)
theorem dX2_processLength_21 : decode cX2_processLength 21 = .ok (.getfield 39, 3) := dk_180 0 39 (dk_at dksX2_processLength_0 21 rfl rfl)
theorem dX2_processLength_24 : decode cX2_processLength 24 = .ok (.iconst 1, 1) := dk_4 (dk_at dksX2_processLength_1 0 rfl rfl)
theorem dX2_processLength_25 : decode cX2_processLength 25 = .ok (.iadd, 1) := dk_96 (dk_at dksX2_processLength_1 1 rfl rfl)
theorem dX2_processLength_26 : decode cX2_processLength 26 = .ok (.putfield 39, 3) := dk_181 0 39 (dk_at dksX2_processLength_1 2 rfl rfl)
theorem dX2_processLength_29 : decode cX2_processLength 29 = .ok (.aload_n 0, 1) := dk_42 (dk_at dksX2_processLength_1 5 rfl rfl)
theorem dX2_processLength_30 : decode cX2_processLength 30 = .ok (.invokevirtual 56, 3) := dk_182 0 56 (dk_at dksX2_processLength_1 6 rfl rfl)
theorem dX2_processLength_33 : decode cX2_processLength 33 = .ok (.aload_n 0, 1) := dk_42 (dk_at dksX2_processLength_1 9 rfl rfl)
theorem dX2_processLength_34 : decode cX2_processLength 34 = .ok (.getfield 39, 3) := dk_180 0 39 (dk_at dksX2_processLength_1 10 rfl rfl)
theorem dX2_processLength_37 : decode cX2_processLength 37 = .ok (.bipush 14, 2) := dk_16 14 (dk_at dksX2_processLength_1 13 rfl rfl)
theorem dX2_processLength_39 : decode cX2_processLength 39 = .ok (.if_icmp .ge 26, 3) := dk_162 0 26 (dk_at dksX2_processLength_1 15 rfl rfl)
theorem dX2_processLength_42 : decode cX2_processLength 42 = .ok (.aload_n 0, 1) := dk_42 (dk_at dksX2_processLength_1 18 rfl rfl)
theorem dX2_processLength_43 : decode cX2_processLength 43 = .ok (.getfield 20, 3) := dk_180 0 20 (dk_at dksX2_processLength_1 19 rfl rfl)
theorem dX2_processLength_46 : decode cX2_processLength 46 = .ok (.aload_n 0, 1) := dk_42 (dk_at dksX2_processLength_1 22 rfl rfl)
theorem dX2_processLength_47 : decode cX2_processLength 47 = .ok (.getfield 39, 3) := dk_180 0 39 (dk_at dksX2_processLength_2 0 rfl rfl)
theorem dX2_processLength_50 : decode cX2_processLength 50 = .ok (.iconst 0, 1) := dk_3 (dk_at dksX2_processLength_2 3 rfl rfl)
theorem dX2_processLength_51 : decode cX2_processLength 51 = .ok (.iastore, 1) := dk_79 (dk_at dksX2_processLength_2 4 rfl rfl)
theorem dX2_processLength_52 : decode cX2_processLength 52 = .ok (.aload_n 0, 1) := dk_42 (dk_at dksX2_processLength_2 5 rfl rfl)
theorem dX2_processLength_53 : decode cX2_processLength 53 = .ok (.dup, 1) := dk_89 (dk_at dksX2_processLength_2 6 rfl rfl)
theorem dX2_processLength_54 : decode cX2_processLength 54 = .ok (.getfield 39, 3) := dk_180 0 39 (dk_at dksX2_processLength_2 7 rfl rfl)
theorem dX2_processLength_57 : decode cX2_processLength 57 = .ok (.iconst 1, 1) := dk_4 (dk_at dksX2_processLength_2 10 rfl rfl)
theorem dX2_processLength_58 : decode cX2_processLength 58 = .ok (.iadd, 1) := dk_96 (dk_at dksX2_processLength_2 11 rfl rfl)
theorem dX2_processLength_59 : decode cX2_processLength 59 = .ok (.putfield 39, 3) := dk_181 0 39 (dk_at dksX2_processLength_2 12 rfl rfl)
theorem dX2_processLength_62 : decode cX2_processLength 62 = .ok (.goto (-29), 3) := dk_167 255 227 (dk_at dksX2_processLength_2 15 rfl rfl)
theorem dX2_processLength_65 : decode cX2_processLength 65 = .ok (.aload_n 0, 1) := dk_42 (dk_at dksX2_processLength_2 18 rfl rfl)
theorem dX2_processLength_66 : decode cX2_processLength 66 = .ok (.getfield 20, 3) := dk_180 0 20 (dk_at dksX2_processLength_2 19 rfl rfl)
theorem dX2_processLength_69 : decode cX2_processLength 69 = .ok (.aload_n 0, 1) := dk_42 (dk_at dksX2_processLength_2 22 rfl rfl)
theorem dX2_processLength_70 : decode cX2_processLength 70 = .ok (.dup, 1) := dk_89 (dk_at dksX2_processLength_2 23 rfl rfl)
theorem dX2_processLength_71 : decode cX2_processLength 71 = .ok (.getfield 39, 3) := dk_180 0 39 (dk_at dksX2_processLength_3 0 rfl rfl)
theorem dX2_processLength_74 : decode cX2_processLength 74 = .ok (.dup_x1, 1) := dk_90 (dk_at dksX2_processLength_3 3 rfl rfl)
theorem dX2_processLength_75 : decode cX2_processLength 75 = .ok (.iconst 1, 1) := dk_4 (dk_at dksX2_processLength_3 4 rfl rfl)
theorem dX2_processLength_76 : decode cX2_processLength 76 = .ok (.iadd, 1) := dk_96 (dk_at dksX2_processLength_3 5 rfl rfl)
theorem dX2_processLength_77 : decode cX2_processLength 77 = .ok (.putfield 39, 3) := dk_181 0 39 (dk_at dksX2_processLength_3 6 rfl rfl)
theorem dX2_processLength_80 : decode cX2_processLength 80 = .ok (.lload_n 1, 1) := dk_31 (dk_at dksX2_processLength_3 9 rfl rfl)
theorem dX2_processLength_81 : decode cX2_processLength 81 = .ok (.bipush 32, 2) := dk_16 32 (dk_at dksX2_processLength_3 10 rfl rfl)
theorem dX2_processLength_83 : decode cX2_processLength 83 = .ok (.lushr, 1) := dk_125 (dk_at dksX2_processLength_3 12 rfl rfl)
theorem dX2_processLength_84 : decode cX2_processLength 84 = .ok (.l2i, 1) := dk_136 (dk_at dksX2_processLength_3 13 rfl rfl)
theorem dX2_processLength_85 : decode cX2_processLength 85 = .ok (.iastore, 1) := dk_79 (dk_at dksX2_processLength_3 14 rfl rfl)
theorem dX2_processLength_86 : decode cX2_processLength 86 = .ok (.aload_n 0, 1) := dk_42 (dk_at dksX2_processLength_3 15 rfl rfl)
theorem dX2_processLength_87 : decode cX2_processLength 87 = .ok (.getfield 20, 3) := dk_180 0 20 (dk_at dksX2_processLength_3 16 rfl rfl)
theorem dX2_processLength_90 : decode cX2_processLength 90 = .ok (.aload_n 0, 1) := dk_42 (dk_at dksX2_processLength_3 19 rfl rfl)
theorem dX2_processLength_91 : decode cX2_processLength 91 = .ok (.dup, 1) := dk_89 (dk_at dksX2_processLength_3 20 rfl rfl)
theorem dX2_processLength_92 : decode cX2_processLength 92 = .ok (.getfield 39, 3) := dk_180 0 39 (dk_at dksX2_processLength_3 21 rfl rfl)
theorem dX2_processLength_95 : decode cX2_processLength 95 = .ok (.dup_x1, 1) := dk_90 (dk_at dksX2_processLength_4 0 rfl rfl)
theorem dX2_processLength_96 : decode cX2_processLength 96 = .ok (.iconst 1, 1) := dk_4 (dk_at dksX2_processLength_4 1 rfl rfl)
theorem dX2_processLength_97 : decode cX2_processLength 97 = .ok (.iadd, 1) := dk_96 (dk_at dksX2_processLength_4 2 rfl rfl)
theorem dX2_processLength_98 : decode cX2_processLength 98 = .ok (.putfield 39, 3) := dk_181 0 39 (dk_at dksX2_processLength_4 3 rfl rfl)
theorem dX2_processLength_101 : decode cX2_processLength 101 = .ok (.lload_n 1, 1) := dk_31 (dk_at dksX2_processLength_4 6 rfl rfl)
theorem dX2_processLength_102 : decode cX2_processLength 102 = .ok (.l2i, 1) := dk_136 (dk_at dksX2_processLength_4 7 rfl rfl)
theorem dX2_processLength_103 : decode cX2_processLength 103 = .ok (.iastore, 1) := dk_79 (dk_at dksX2_processLength_4 8 rfl rfl)
theorem dX2_processLength_104 : decode cX2_processLength 104 = .ok (.return_, 1) := dk_177 (dk_at dksX2_processLength_4 9 rfl rfl)
theorem q17 : (Jvm.Cond.initialized "SM3Digest") ∈ lw_all := lw_g (lw_at lw_m1 3 rfl) rfl
theorem q32 : (Jvm.Cond.instantiable "SM3Digest" (8 : Nat)) ∈ lw_all := lw_g (lw_at lw_m1 18 rfl) rfl
theorem q34 : (Jvm.Cond.instanceMethod ({ cls := "SM3Digest", name := "<init>", desc := "()V" } : Jvm.MethodName)) ∈ lw_all := lw_g (lw_at lw_m1 20 rfl) rfl
theorem q35 : (Jvm.Cond.code ({ cls := "SM3Digest", name := "<init>", desc := "()V" } : Jvm.MethodName) prog_6_method_1_code (1 : Nat) (Option.none : Option Jvm.ClassFile.FieldType)) ∈ lw_all := lw_g (lw_at lw_m1 21 rfl) rfl
theorem q36 : (Jvm.Cond.fieldLink "SM3Digest" (1 : Nat) "CryptoServicePurpose" "ANY" "LCryptoServicePurpose;") ∈ lw_all := lw_g (lw_at lw_m1 22 rfl) rfl
theorem q38 : (Jvm.Cond.methodLink "SM3Digest" (7 : Nat) ({ cls := "SM3Digest", name := "<init>", desc := "(LCryptoServicePurpose;)V" } : Jvm.MethodName)) ∈ lw_all := lw_g (lw_at lw_m1 24 rfl) rfl
theorem q39 : (Jvm.Cond.instanceMethod ({ cls := "SM3Digest", name := "<init>", desc := "(LCryptoServicePurpose;)V" } : Jvm.MethodName)) ∈ lw_all := lw_g (lw_at lw_m1 25 rfl) rfl
theorem q40 : (Jvm.Cond.code ({ cls := "SM3Digest", name := "<init>", desc := "(LCryptoServicePurpose;)V" } : Jvm.MethodName) prog_6_method_2_code (2 : Nat) (Option.none : Option Jvm.ClassFile.FieldType)) ∈ lw_all := lw_g (lw_at lw_m1 26 rfl) rfl
theorem q41 : (Jvm.Cond.methodLink "SM3Digest" (13 : Nat) ({ cls := "GeneralDigest", name := "<init>", desc := "(LCryptoServicePurpose;)V" } : Jvm.MethodName)) ∈ lw_all := lw_g (lw_at lw_m1 27 rfl) rfl
theorem q45 : (Jvm.Cond.methodLink "SM3Digest" (26 : Nat) ({ cls := "SM3Digest", name := "reset", desc := "()V" } : Jvm.MethodName)) ∈ lw_all := lw_g (lw_at lw_m1 31 rfl) rfl
theorem q46 : (Jvm.Cond.instanceMethod ({ cls := "SM3Digest", name := "reset", desc := "()V" } : Jvm.MethodName)) ∈ lw_all := lw_g (lw_at lw_m1 32 rfl) rfl
theorem q47 : (Jvm.Cond.selects "SM3Digest" ({ cls := "SM3Digest", name := "reset", desc := "()V" } : Jvm.MethodName) ({ cls := "SM3Digest", name := "reset", desc := "()V" } : Jvm.MethodName)) ∈ lw_all := lw_g (lw_at lw_m1 33 rfl) rfl
theorem q48 : (Jvm.Cond.code ({ cls := "SM3Digest", name := "reset", desc := "()V" } : Jvm.MethodName) prog_6_method_3_code (1 : Nat) (Option.none : Option Jvm.ClassFile.FieldType)) ∈ lw_all := lw_g (lw_at lw_m1 34 rfl) rfl
theorem q49 : (Jvm.Cond.methodLink "SM3Digest" (30 : Nat) ({ cls := "GeneralDigest", name := "reset", desc := "()V" } : Jvm.MethodName)) ∈ lw_all := lw_g (lw_at lw_m1 35 rfl) rfl
theorem q50 : (Jvm.Cond.superclass "SM3Digest" "GeneralDigest") ∈ lw_all := lw_g (lw_at lw_m1 36 rfl) rfl
theorem q53 : (Jvm.Cond.constant "SM3Digest" (31 : Nat) (1937774191 : Int32)) ∈ lw_all := lw_g (lw_at lw_m1 39 rfl) rfl
theorem q54 : (Jvm.Cond.constant "SM3Digest" (32 : Nat) (1226093241 : Int32)) ∈ lw_all := lw_g (lw_at lw_m1 40 rfl) rfl
theorem q55 : (Jvm.Cond.constant "SM3Digest" (33 : Nat) (388252375 : Int32)) ∈ lw_all := lw_g (lw_at lw_m1 41 rfl) rfl
theorem q56 : (Jvm.Cond.constant "SM3Digest" (34 : Nat) (-628488704 : Int32)) ∈ lw_all := lw_g (lw_at lw_m1 42 rfl) rfl
theorem q57 : (Jvm.Cond.constant "SM3Digest" (35 : Nat) (-1452330820 : Int32)) ∈ lw_all := lw_g (lw_at lw_m1 43 rfl) rfl
theorem q58 : (Jvm.Cond.constant "SM3Digest" (36 : Nat) (372324522 : Int32)) ∈ lw_all := lw_g (lw_at lw_m1 44 rfl) rfl
theorem q59 : (Jvm.Cond.constant "SM3Digest" (37 : Nat) (-477237683 : Int32)) ∈ lw_all := lw_g (lw_at lw_m1 45 rfl) rfl
theorem q60 : (Jvm.Cond.constant "SM3Digest" (38 : Nat) (-1325724082 : Int32)) ∈ lw_all := lw_g (lw_at lw_m1 46 rfl) rfl
theorem q61 : (Jvm.Cond.fieldLink "SM3Digest" (16 : Nat) "SM3Digest" "V" "[I") ∈ lw_all := lw_g (lw_at lw_m1 47 rfl) rfl
theorem q62 : (Jvm.Cond.fieldLink "SM3Digest" (20 : Nat) "SM3Digest" "inwords" "[I") ∈ lw_all := lw_g (lw_at lw_m1 48 rfl) rfl
theorem q63 : (Jvm.Cond.fieldLink "SM3Digest" (39 : Nat) "SM3Digest" "xOff" "I") ∈ lw_all := lw_g (lw_at lw_m1 49 rfl) rfl
theorem q64 : (Jvm.Cond.fieldLink "SM3Digest" (23 : Nat) "SM3Digest" "W" "[I") ∈ lw_all := lw_g (lw_at lw_m1 50 rfl) rfl
theorem q69 : (Jvm.Cond.lays "SM3Digest" "SM3Digest" "V" "[I") ∈ lw_all := lw_g (lw_at lw_m1 55 rfl) rfl
theorem q70 : (Jvm.Cond.soleField "SM3Digest" "V") ∈ lw_all := lw_g (lw_at lw_m1 56 rfl) rfl
theorem q71 : (Jvm.Cond.lays "SM3Digest" "SM3Digest" "inwords" "[I") ∈ lw_all := lw_g (lw_at lw_m1 57 rfl) rfl
theorem q72 : (Jvm.Cond.soleField "SM3Digest" "inwords") ∈ lw_all := lw_g (lw_at lw_m1 58 rfl) rfl
theorem q73 : (Jvm.Cond.lays "SM3Digest" "SM3Digest" "xOff" "I") ∈ lw_all := lw_g (lw_at lw_m1 59 rfl) rfl
theorem q74 : (Jvm.Cond.soleField "SM3Digest" "xOff") ∈ lw_all := lw_g (lw_at lw_m1 60 rfl) rfl
theorem q75 : (Jvm.Cond.lays "SM3Digest" "SM3Digest" "W" "[I") ∈ lw_all := lw_g (lw_at lw_m1 61 rfl) rfl
theorem q76 : (Jvm.Cond.soleField "SM3Digest" "W") ∈ lw_all := lw_g (lw_at lw_m1 62 rfl) rfl
theorem q77 : (Jvm.Cond.laysFinal "SM3Digest" "GeneralDigest" "purpose" "LCryptoServicePurpose;") ∈ lw_all := lw_g (lw_at lw_m1 63 rfl) rfl
theorem q79 : (Jvm.Cond.laysFinal "SM3Digest" "GeneralDigest" "xBuf" "[B") ∈ lw_all := lw_g (lw_at lw_m1 65 rfl) rfl
theorem q81 : (Jvm.Cond.lays "SM3Digest" "GeneralDigest" "xBufOff" "I") ∈ lw_all := lw_g (lw_at lw_m1 67 rfl) rfl
theorem q83 : (Jvm.Cond.lays "SM3Digest" "GeneralDigest" "byteCount" "J") ∈ lw_all := lw_g (lw_at lw_m1 69 rfl) rfl
theorem q136 : (Jvm.Cond.castable "SM3Digest" "Digest") ∈ lw_tbl := lw_at lw_m1 122 rfl
theorem q137 : (Jvm.Cond.selects "SM3Digest" ({ cls := "Digest", name := "update", desc := "([BII)V" } : Jvm.MethodName) ({ cls := "GeneralDigest", name := "update", desc := "([BII)V" } : Jvm.MethodName)) ∈ lw_all := lw_g (lw_at lw_m1 123 rfl) rfl
theorem q138 : (Jvm.Cond.unhidden "SM3Digest" "update" "([BII)V") ∈ lw_tbl := lw_at lw_m1 124 rfl
theorem q148 : (Jvm.Cond.selects "SM3Digest" ({ cls := "GeneralDigest", name := "processWord", desc := "([BI)V" } : Jvm.MethodName) ({ cls := "SM3Digest", name := "processWord", desc := "([BI)V" } : Jvm.MethodName)) ∈ lw_all := lw_g (lw_at lw_m1 134 rfl) rfl
theorem q149 : (Jvm.Cond.instanceMethod ({ cls := "SM3Digest", name := "processWord", desc := "([BI)V" } : Jvm.MethodName)) ∈ lw_all := lw_g (lw_at lw_m1 135 rfl) rfl
theorem q150 : (Jvm.Cond.code ({ cls := "SM3Digest", name := "processWord", desc := "([BI)V" } : Jvm.MethodName) prog_6_method_5_code (3 : Nat) (Option.none : Option Jvm.ClassFile.FieldType)) ∈ lw_all := lw_g (lw_at lw_m1 136 rfl) rfl
theorem q151 : (Jvm.Cond.methodLink "SM3Digest" (52 : Nat) ({ cls := "Pack", name := "bigEndianToInt", desc := "([BI)I" } : Jvm.MethodName)) ∈ lw_all := lw_g (lw_at lw_m1 137 rfl) rfl
theorem q154 : (Jvm.Cond.methodLink "SM3Digest" (56 : Nat) ({ cls := "SM3Digest", name := "processBlock", desc := "()V" } : Jvm.MethodName)) ∈ lw_all := lw_g (lw_at lw_m1 140 rfl) rfl
theorem q155 : (Jvm.Cond.instanceMethod ({ cls := "SM3Digest", name := "processBlock", desc := "()V" } : Jvm.MethodName)) ∈ lw_all := lw_g (lw_at lw_m1 141 rfl) rfl
theorem q156 : (Jvm.Cond.selects "SM3Digest" ({ cls := "SM3Digest", name := "processBlock", desc := "()V" } : Jvm.MethodName) ({ cls := "SM3Digest", name := "processBlock", desc := "()V" } : Jvm.MethodName)) ∈ lw_all := lw_g (lw_at lw_m1 142 rfl) rfl
theorem q157 : (Jvm.Cond.code ({ cls := "SM3Digest", name := "processBlock", desc := "()V" } : Jvm.MethodName) prog_6_method_13_code (18 : Nat) (Option.none : Option Jvm.ClassFile.FieldType)) ∈ lw_all := lw_g (lw_at lw_m1 143 rfl) rfl
theorem q158 : (Jvm.Cond.methodLink "SM3Digest" (59 : Nat) ({ cls := "SM3Digest", name := "P1", desc := "(I)I" } : Jvm.MethodName)) ∈ lw_all := lw_g (lw_at lw_m1 144 rfl) rfl
theorem q159 : (Jvm.Cond.privateMethod ({ cls := "SM3Digest", name := "P1", desc := "(I)I" } : Jvm.MethodName)) ∈ lw_tbl := lw_at lw_m1 145 rfl
theorem q160 : (Jvm.Cond.instanceMethod ({ cls := "SM3Digest", name := "P1", desc := "(I)I" } : Jvm.MethodName)) ∈ lw_all := lw_g (lw_at lw_m1 146 rfl) rfl
theorem q161 : (Jvm.Cond.code ({ cls := "SM3Digest", name := "P1", desc := "(I)I" } : Jvm.MethodName) prog_6_method_8_code (4 : Nat) (Option.some Jvm.ClassFile.FieldType.int)) ∈ lw_all := lw_g (lw_at lw_m1 147 rfl) rfl
theorem q162 : (Jvm.Cond.fieldLink "SM3Digest" (63 : Nat) "SM3Digest" "T" "[I") ∈ lw_all := lw_g (lw_at lw_m1 148 rfl) rfl
theorem q163 : (Jvm.Cond.laysStatic "SM3Digest" "T" "[I") ∈ lw_tbl := lw_at lw_m1 149 rfl
theorem q164 : (Jvm.Cond.methodLink "SM3Digest" (66 : Nat) ({ cls := "SM3Digest", name := "FF0", desc := "(III)I" } : Jvm.MethodName)) ∈ lw_all := lw_g (lw_at lw_m1 150 rfl) rfl
theorem q165 : (Jvm.Cond.privateMethod ({ cls := "SM3Digest", name := "FF0", desc := "(III)I" } : Jvm.MethodName)) ∈ lw_tbl := lw_at lw_m1 151 rfl
theorem q166 : (Jvm.Cond.instanceMethod ({ cls := "SM3Digest", name := "FF0", desc := "(III)I" } : Jvm.MethodName)) ∈ lw_all := lw_g (lw_at lw_m1 152 rfl) rfl
theorem q167 : (Jvm.Cond.code ({ cls := "SM3Digest", name := "FF0", desc := "(III)I" } : Jvm.MethodName) prog_6_method_9_code (4 : Nat) (Option.some Jvm.ClassFile.FieldType.int)) ∈ lw_all := lw_g (lw_at lw_m1 153 rfl) rfl
theorem q168 : (Jvm.Cond.methodLink "SM3Digest" (70 : Nat) ({ cls := "SM3Digest", name := "GG0", desc := "(III)I" } : Jvm.MethodName)) ∈ lw_all := lw_g (lw_at lw_m1 154 rfl) rfl
theorem q169 : (Jvm.Cond.privateMethod ({ cls := "SM3Digest", name := "GG0", desc := "(III)I" } : Jvm.MethodName)) ∈ lw_tbl := lw_at lw_m1 155 rfl
theorem q170 : (Jvm.Cond.instanceMethod ({ cls := "SM3Digest", name := "GG0", desc := "(III)I" } : Jvm.MethodName)) ∈ lw_all := lw_g (lw_at lw_m1 156 rfl) rfl
theorem q171 : (Jvm.Cond.code ({ cls := "SM3Digest", name := "GG0", desc := "(III)I" } : Jvm.MethodName) prog_6_method_11_code (4 : Nat) (Option.some Jvm.ClassFile.FieldType.int)) ∈ lw_all := lw_g (lw_at lw_m1 157 rfl) rfl
theorem q172 : (Jvm.Cond.methodLink "SM3Digest" (73 : Nat) ({ cls := "SM3Digest", name := "P0", desc := "(I)I" } : Jvm.MethodName)) ∈ lw_all := lw_g (lw_at lw_m1 158 rfl) rfl
theorem q173 : (Jvm.Cond.privateMethod ({ cls := "SM3Digest", name := "P0", desc := "(I)I" } : Jvm.MethodName)) ∈ lw_tbl := lw_at lw_m1 159 rfl
theorem q174 : (Jvm.Cond.instanceMethod ({ cls := "SM3Digest", name := "P0", desc := "(I)I" } : Jvm.MethodName)) ∈ lw_all := lw_g (lw_at lw_m1 160 rfl) rfl
theorem q175 : (Jvm.Cond.code ({ cls := "SM3Digest", name := "P0", desc := "(I)I" } : Jvm.MethodName) prog_6_method_7_code (4 : Nat) (Option.some Jvm.ClassFile.FieldType.int)) ∈ lw_all := lw_g (lw_at lw_m1 161 rfl) rfl
theorem q176 : (Jvm.Cond.methodLink "SM3Digest" (76 : Nat) ({ cls := "SM3Digest", name := "FF1", desc := "(III)I" } : Jvm.MethodName)) ∈ lw_all := lw_g (lw_at lw_m1 162 rfl) rfl
theorem q177 : (Jvm.Cond.privateMethod ({ cls := "SM3Digest", name := "FF1", desc := "(III)I" } : Jvm.MethodName)) ∈ lw_tbl := lw_at lw_m1 163 rfl
theorem q178 : (Jvm.Cond.instanceMethod ({ cls := "SM3Digest", name := "FF1", desc := "(III)I" } : Jvm.MethodName)) ∈ lw_all := lw_g (lw_at lw_m1 164 rfl) rfl
theorem q179 : (Jvm.Cond.code ({ cls := "SM3Digest", name := "FF1", desc := "(III)I" } : Jvm.MethodName) prog_6_method_10_code (4 : Nat) (Option.some Jvm.ClassFile.FieldType.int)) ∈ lw_all := lw_g (lw_at lw_m1 165 rfl) rfl
theorem q180 : (Jvm.Cond.methodLink "SM3Digest" (79 : Nat) ({ cls := "SM3Digest", name := "GG1", desc := "(III)I" } : Jvm.MethodName)) ∈ lw_all := lw_g (lw_at lw_m1 166 rfl) rfl
theorem q181 : (Jvm.Cond.privateMethod ({ cls := "SM3Digest", name := "GG1", desc := "(III)I" } : Jvm.MethodName)) ∈ lw_tbl := lw_at lw_m1 167 rfl
theorem q182 : (Jvm.Cond.instanceMethod ({ cls := "SM3Digest", name := "GG1", desc := "(III)I" } : Jvm.MethodName)) ∈ lw_all := lw_g (lw_at lw_m1 168 rfl) rfl
theorem q183 : (Jvm.Cond.code ({ cls := "SM3Digest", name := "GG1", desc := "(III)I" } : Jvm.MethodName) prog_6_method_12_code (4 : Nat) (Option.some Jvm.ClassFile.FieldType.int)) ∈ lw_all := lw_g (lw_at lw_m1 169 rfl) rfl
theorem q192 : (Jvm.Cond.selects "SM3Digest" ({ cls := "Digest", name := "update", desc := "(B)V" } : Jvm.MethodName) ({ cls := "GeneralDigest", name := "update", desc := "(B)V" } : Jvm.MethodName)) ∈ lw_all := lw_g (lw_at lw_m1 178 rfl) rfl
theorem q193 : (Jvm.Cond.unhidden "SM3Digest" "update" "(B)V") ∈ lw_tbl := lw_at lw_m1 179 rfl
theorem q205 : (Jvm.Cond.selects "SM3Digest" ({ cls := "Digest", name := "doFinal", desc := "([BI)I" } : Jvm.MethodName) ({ cls := "SM3Digest", name := "doFinal", desc := "([BI)I" } : Jvm.MethodName)) ∈ lw_all := lw_g (lw_at lw_m1 191 rfl) rfl
theorem q206 : (Jvm.Cond.unhidden "SM3Digest" "doFinal" "([BI)I") ∈ lw_tbl := lw_at lw_m1 192 rfl
theorem q207 : (Jvm.Cond.instanceMethod ({ cls := "SM3Digest", name := "doFinal", desc := "([BI)I" } : Jvm.MethodName)) ∈ lw_all := lw_g (lw_at lw_m1 193 rfl) rfl
theorem q208 : (Jvm.Cond.publicMethod ({ cls := "SM3Digest", name := "doFinal", desc := "([BI)I" } : Jvm.MethodName)) ∈ lw_tbl := lw_at lw_m1 194 rfl
theorem q209 : (Jvm.Cond.code ({ cls := "SM3Digest", name := "doFinal", desc := "([BI)I" } : Jvm.MethodName) prog_6_method_4_code (3 : Nat) (Option.some Jvm.ClassFile.FieldType.int)) ∈ lw_all := lw_g (lw_at lw_m1 195 rfl) rfl
theorem q210 : (Jvm.Cond.methodLink "SM3Digest" (43 : Nat) ({ cls := "SM3Digest", name := "finish", desc := "()V" } : Jvm.MethodName)) ∈ lw_all := lw_g (lw_at lw_m1 196 rfl) rfl
theorem q211 : (Jvm.Cond.sameMethod "SM3Digest" "GeneralDigest" "finish" "()V") ∈ lw_all := lw_g (lw_at lw_m1 197 rfl) rfl
theorem q213 : (Jvm.Cond.selects "SM3Digest" ({ cls := "SM3Digest", name := "finish", desc := "()V" } : Jvm.MethodName) ({ cls := "GeneralDigest", name := "finish", desc := "()V" } : Jvm.MethodName)) ∈ lw_all := lw_g (lw_at lw_m1 199 rfl) rfl
theorem q220 : (Jvm.Cond.selects "SM3Digest" ({ cls := "GeneralDigest", name := "processLength", desc := "(J)V" } : Jvm.MethodName) ({ cls := "SM3Digest", name := "processLength", desc := "(J)V" } : Jvm.MethodName)) ∈ lw_all := lw_g (lw_at lw_m1 206 rfl) rfl
theorem q221 : (Jvm.Cond.instanceMethod ({ cls := "SM3Digest", name := "processLength", desc := "(J)V" } : Jvm.MethodName)) ∈ lw_all := lw_g (lw_at lw_m1 207 rfl) rfl
theorem q222 : (Jvm.Cond.code ({ cls := "SM3Digest", name := "processLength", desc := "(J)V" } : Jvm.MethodName) prog_6_method_6_code (3 : Nat) (Option.none : Option Jvm.ClassFile.FieldType)) ∈ lw_all := lw_g (lw_at lw_m1 208 rfl) rfl
theorem q226 : (Jvm.Cond.selects "SM3Digest" ({ cls := "GeneralDigest", name := "processBlock", desc := "()V" } : Jvm.MethodName) ({ cls := "SM3Digest", name := "processBlock", desc := "()V" } : Jvm.MethodName)) ∈ lw_all := lw_g (lw_at lw_m1 212 rfl) rfl
theorem q227 : (Jvm.Cond.methodLink "SM3Digest" (46 : Nat) ({ cls := "Pack", name := "intToBigEndian", desc := "([I[BI)V" } : Jvm.MethodName)) ∈ lw_all := lw_g (lw_at lw_m1 213 rfl) rfl
theorem q241 : (Jvm.Cond.selects "SM3Digest" ({ cls := "Digest", name := "reset", desc := "()V" } : Jvm.MethodName) ({ cls := "SM3Digest", name := "reset", desc := "()V" } : Jvm.MethodName)) ∈ lw_all := lw_g (lw_at lw_m1 227 rfl) rfl
theorem q242 : (Jvm.Cond.unhidden "SM3Digest" "reset" "()V") ∈ lw_tbl := lw_at lw_m1 228 rfl
theorem q243 : (Jvm.Cond.publicMethod ({ cls := "SM3Digest", name := "reset", desc := "()V" } : Jvm.MethodName)) ∈ lw_tbl := lw_at lw_m1 229 rfl
theorem q358 : (Jvm.Cond.selects "SM3Digest" ({ cls := "GeneralDigest", name := "update", desc := "(B)V" } : Jvm.MethodName) ({ cls := "GeneralDigest", name := "update", desc := "(B)V" } : Jvm.MethodName)) ∈ lw_all := lw_g (lw_at lw_m2 104 rfl) rfl
theorem in_X2 : ∀ w ∈ wsX20, w ∈ lw_all := lw_in wsX20 [77, 79, 81, 83, 69, 71, 73, 75] (by decide +kernel) (by decide +kernel)
end
section
/-! SmDigestDeskModel -/
set_option maxRecDepth 100000
def RX3 : String := "SmDigestDeskModel"
def TX3 : u_T := fun k => match k with
  | 0 => ("SmDigestDeskModel", "out", "[B", true)
  | 1 => ("SmDigestDeskModel", "text", "[B", true)
  | 2 => ("SmDigestDeskModel", "size", "I", false)
  | 3 => ("SmDigestDeskModel", "message", "[B", true)
  | 4 => ("SmDigestDeskModel", "fed", "I", false)
  | 5 => ("SmDigestDeskModel", "w", "[I", true)
  | 6 => ("SmDigestDeskModel", "v", "[I", true)
  | _ => ("SmDigestDeskModel", "\x72", "[I", true)
def tyX3 : Nat → FieldType := fun k => match k with
  | 0 => .array .byte
  | 1 => .array .byte
  | 2 => .int
  | 3 => .array .byte
  | 4 => .int
  | 5 => .array .int
  | 6 => .array .int
  | _ => .array .int
abbrev wsX30 : List Cond := u_ws RX3 TX3 8
theorem nmX3 : ∀ a, a < 8 → ∀ b, b < 8 → a ≠ b → (TX3 a).2.1 ≠ (TX3 b).2.1 := by decide +kernel
theorem tyX3_ok : ∀ k, k < 8 → parseFieldDescriptor (TX3 k).2.2.1 = some (tyX3 k) := by decide +kernel
abbrev cX3_init : ByteArray := prog_9_method_1_code
def yX3_init : MethodName := ⟨RX3, "<init>", "()V"⟩
def dkwX3_init_2 : List UInt8 := [42, 16, 8, 188, 10, 181, 0, 26, 177]
abbrev dktX3_init_2 : List UInt8 := dkwX3_init_2 ++ []
def dkwX3_init_1 : List UInt8 := [17, 64, 0, 188, 8, 181, 0, 16, 42, 16, 68, 188, 10, 181, 0, 19, 42, 16, 8, 188, 10, 181, 0, 23]
abbrev dktX3_init_1 : List UInt8 := dkwX3_init_1 ++ dktX3_init_2
def dkwX3_init_0 : List UInt8 := [42, 183, 0, 1, 42, 16, 64, 188, 8, 181, 0, 7, 42, 17, 4, 0, 188, 8, 181, 0, 13, 42]
abbrev dktX3_init_0 : List UInt8 := dkwX3_init_0 ++ dktX3_init_1
theorem dksX3_init_0 : cX3_init.data.toList.drop 0 = dktX3_init_0 := by decide +kernel
theorem dksX3_init_1 : cX3_init.data.toList.drop 22 = dktX3_init_1 := dk_seg dksX3_init_0 22 rfl rfl
theorem dksX3_init_2 : cX3_init.data.toList.drop 46 = dktX3_init_2 := dk_seg dksX3_init_1 24 rfl rfl
theorem dX3_init_0 : decode cX3_init 0 = .ok (.aload_n 0, 1) := dk_42 (dk_at dksX3_init_0 0 rfl rfl)
theorem dX3_init_1 : decode cX3_init 1 = .ok (.invokespecial 1, 3) := dk_183 0 1 (dk_at dksX3_init_0 1 rfl rfl)
theorem dX3_init_4 : decode cX3_init 4 = .ok (.aload_n 0, 1) := dk_42 (dk_at dksX3_init_0 4 rfl rfl)
theorem dX3_init_5 : decode cX3_init 5 = .ok (.bipush 64, 2) := dk_16 64 (dk_at dksX3_init_0 5 rfl rfl)
theorem dX3_init_7 : decode cX3_init 7 = .ok (.newarray .byte, 2) := dk_188_8 (dk_at dksX3_init_0 7 rfl rfl)
theorem dX3_init_9 : decode cX3_init 9 = .ok (.putfield 7, 3) := dk_181 0 7 (dk_at dksX3_init_0 9 rfl rfl)
theorem dX3_init_12 : decode cX3_init 12 = .ok (.aload_n 0, 1) := dk_42 (dk_at dksX3_init_0 12 rfl rfl)
theorem dX3_init_13 : decode cX3_init 13 = .ok (.sipush 1024, 3) := dk_17 4 0 (dk_at dksX3_init_0 13 rfl rfl)
theorem dX3_init_16 : decode cX3_init 16 = .ok (.newarray .byte, 2) := dk_188_8 (dk_at dksX3_init_0 16 rfl rfl)
theorem dX3_init_18 : decode cX3_init 18 = .ok (.putfield 13, 3) := dk_181 0 13 (dk_at dksX3_init_0 18 rfl rfl)
theorem dX3_init_21 : decode cX3_init 21 = .ok (.aload_n 0, 1) := dk_42 (dk_at dksX3_init_0 21 rfl rfl)
theorem dX3_init_22 : decode cX3_init 22 = .ok (.sipush 16384, 3) := dk_17 64 0 (dk_at dksX3_init_1 0 rfl rfl)
theorem dX3_init_25 : decode cX3_init 25 = .ok (.newarray .byte, 2) := dk_188_8 (dk_at dksX3_init_1 3 rfl rfl)
theorem dX3_init_27 : decode cX3_init 27 = .ok (.putfield 16, 3) := dk_181 0 16 (dk_at dksX3_init_1 5 rfl rfl)
theorem dX3_init_30 : decode cX3_init 30 = .ok (.aload_n 0, 1) := dk_42 (dk_at dksX3_init_1 8 rfl rfl)
theorem dX3_init_31 : decode cX3_init 31 = .ok (.bipush 68, 2) := dk_16 68 (dk_at dksX3_init_1 9 rfl rfl)
theorem dX3_init_33 : decode cX3_init 33 = .ok (.newarray .int, 2) := dk_188_10 (dk_at dksX3_init_1 11 rfl rfl)
theorem dX3_init_35 : decode cX3_init 35 = .ok (.putfield 19, 3) := dk_181 0 19 (dk_at dksX3_init_1 13 rfl rfl)
theorem dX3_init_38 : decode cX3_init 38 = .ok (.aload_n 0, 1) := dk_42 (dk_at dksX3_init_1 16 rfl rfl)
theorem dX3_init_39 : decode cX3_init 39 = .ok (.bipush 8, 2) := dk_16 8 (dk_at dksX3_init_1 17 rfl rfl)
theorem dX3_init_41 : decode cX3_init 41 = .ok (.newarray .int, 2) := dk_188_10 (dk_at dksX3_init_1 19 rfl rfl)
theorem dX3_init_43 : decode cX3_init 43 = .ok (.putfield 23, 3) := dk_181 0 23 (dk_at dksX3_init_1 21 rfl rfl)
theorem dX3_init_46 : decode cX3_init 46 = .ok (.aload_n 0, 1) := dk_42 (dk_at dksX3_init_2 0 rfl rfl)
theorem dX3_init_47 : decode cX3_init 47 = .ok (.bipush 8, 2) := dk_16 8 (dk_at dksX3_init_2 1 rfl rfl)
theorem dX3_init_49 : decode cX3_init 49 = .ok (.newarray .int, 2) := dk_188_10 (dk_at dksX3_init_2 3 rfl rfl)
theorem dX3_init_51 : decode cX3_init 51 = .ok (.putfield 26, 3) := dk_181 0 26 (dk_at dksX3_init_2 5 rfl rfl)
theorem dX3_init_54 : decode cX3_init 54 = .ok (.return_, 1) := dk_177 (dk_at dksX3_init_2 8 rfl rfl)
abbrev cX3_put : ByteArray := prog_9_method_2_code
def yX3_put : MethodName := ⟨RX3, "put", "(IIII)Z"⟩
def dkwX3_put_4 : List UInt8 := [42, 89, 180, 0, 29, 16, 16, 96, 181, 0, 29, 4, 172]
abbrev dktX3_put_4 : List UInt8 := dkwX3_put_4 ++ []
def dkwX3_put_3 : List UInt8 := [21, 5, 96, 21, 6, 16, 24, 16, 8, 21, 5, 7, 112, 104, 100, 124, 145, 84, 132, 5, 1, 167, 255, 184]
abbrev dktX3_put_3 : List UInt8 := dkwX3_put_3 ++ dktX3_put_4
def dkwX3_put_2 : List UInt8 := [21, 5, 16, 12, 162, 0, 7, 29, 167, 0, 5, 21, 4, 54, 6, 42, 180, 0, 13, 42, 180, 0, 29]
abbrev dktX3_put_2 : List UInt8 := dkwX3_put_2 ++ dktX3_put_3
def dkwX3_put_1 : List UInt8 := [162, 0, 71, 21, 5, 7, 162, 0, 7, 27, 167, 0, 27, 21, 5, 16, 8, 162, 0, 7, 28, 167, 0, 16]
abbrev dktX3_put_1 : List UInt8 := dkwX3_put_1 ++ dktX3_put_2
def dkwX3_put_0 : List UInt8 := [42, 180, 0, 29, 16, 16, 96, 17, 4, 0, 164, 0, 5, 3, 172, 3, 54, 5, 21, 5, 16, 16]
abbrev dktX3_put_0 : List UInt8 := dkwX3_put_0 ++ dktX3_put_1
theorem dksX3_put_0 : cX3_put.data.toList.drop 0 = dktX3_put_0 := by decide +kernel
theorem dksX3_put_1 : cX3_put.data.toList.drop 22 = dktX3_put_1 := dk_seg dksX3_put_0 22 rfl rfl
theorem dksX3_put_2 : cX3_put.data.toList.drop 46 = dktX3_put_2 := dk_seg dksX3_put_1 24 rfl rfl
theorem dksX3_put_3 : cX3_put.data.toList.drop 69 = dktX3_put_3 := dk_seg dksX3_put_2 23 rfl rfl
theorem dksX3_put_4 : cX3_put.data.toList.drop 93 = dktX3_put_4 := dk_seg dksX3_put_3 24 rfl rfl
theorem dX3_put_0 : decode cX3_put 0 = .ok (.aload_n 0, 1) := dk_42 (dk_at dksX3_put_0 0 rfl rfl)
theorem dX3_put_1 : decode cX3_put 1 = .ok (.getfield 29, 3) := dk_180 0 29 (dk_at dksX3_put_0 1 rfl rfl)
theorem dX3_put_4 : decode cX3_put 4 = .ok (.bipush 16, 2) := dk_16 16 (dk_at dksX3_put_0 4 rfl rfl)
theorem dX3_put_6 : decode cX3_put 6 = .ok (.iadd, 1) := dk_96 (dk_at dksX3_put_0 6 rfl rfl)
theorem dX3_put_7 : decode cX3_put 7 = .ok (.sipush 1024, 3) := dk_17 4 0 (dk_at dksX3_put_0 7 rfl rfl)
theorem dX3_put_10 : decode cX3_put 10 = .ok (.if_icmp .le 5, 3) := dk_164 0 5 (dk_at dksX3_put_0 10 rfl rfl)
theorem dX3_put_13 : decode cX3_put 13 = .ok (.iconst 0, 1) := dk_3 (dk_at dksX3_put_0 13 rfl rfl)
theorem dX3_put_14 : decode cX3_put 14 = .ok (.ireturn, 1) := dk_172 (dk_at dksX3_put_0 14 rfl rfl)
theorem dX3_put_15 : decode cX3_put 15 = .ok (.iconst 0, 1) := dk_3 (dk_at dksX3_put_0 15 rfl rfl)
theorem dX3_put_16 : decode cX3_put 16 = .ok (.istore 5, 2) := dk_54 5 (dk_at dksX3_put_0 16 rfl rfl)
theorem dX3_put_18 : decode cX3_put 18 = .ok (.iload 5, 2) := dk_21 5 (dk_at dksX3_put_0 18 rfl rfl)
theorem dX3_put_20 : decode cX3_put 20 = .ok (.bipush 16, 2) := dk_16 16 (dk_at dksX3_put_0 20 rfl rfl)
theorem dX3_put_22 : decode cX3_put 22 = .ok (.if_icmp .ge 71, 3) := dk_162 0 71 (dk_at dksX3_put_1 0 rfl rfl)
theorem dX3_put_25 : decode cX3_put 25 = .ok (.iload 5, 2) := dk_21 5 (dk_at dksX3_put_1 3 rfl rfl)
theorem dX3_put_27 : decode cX3_put 27 = .ok (.iconst 4, 1) := dk_7 (dk_at dksX3_put_1 5 rfl rfl)
theorem dX3_put_28 : decode cX3_put 28 = .ok (.if_icmp .ge 7, 3) := dk_162 0 7 (dk_at dksX3_put_1 6 rfl rfl)
theorem dX3_put_31 : decode cX3_put 31 = .ok (.iload_n 1, 1) := dk_27 (dk_at dksX3_put_1 9 rfl rfl)
theorem dX3_put_32 : decode cX3_put 32 = .ok (.goto 27, 3) := dk_167 0 27 (dk_at dksX3_put_1 10 rfl rfl)
theorem dX3_put_35 : decode cX3_put 35 = .ok (.iload 5, 2) := dk_21 5 (dk_at dksX3_put_1 13 rfl rfl)
theorem dX3_put_37 : decode cX3_put 37 = .ok (.bipush 8, 2) := dk_16 8 (dk_at dksX3_put_1 15 rfl rfl)
theorem dX3_put_39 : decode cX3_put 39 = .ok (.if_icmp .ge 7, 3) := dk_162 0 7 (dk_at dksX3_put_1 17 rfl rfl)
theorem dX3_put_42 : decode cX3_put 42 = .ok (.iload_n 2, 1) := dk_28 (dk_at dksX3_put_1 20 rfl rfl)
theorem dX3_put_43 : decode cX3_put 43 = .ok (.goto 16, 3) := dk_167 0 16 (dk_at dksX3_put_1 21 rfl rfl)
theorem dX3_put_46 : decode cX3_put 46 = .ok (.iload 5, 2) := dk_21 5 (dk_at dksX3_put_2 0 rfl rfl)
theorem dX3_put_48 : decode cX3_put 48 = .ok (.bipush 12, 2) := dk_16 12 (dk_at dksX3_put_2 2 rfl rfl)
theorem dX3_put_50 : decode cX3_put 50 = .ok (.if_icmp .ge 7, 3) := dk_162 0 7 (dk_at dksX3_put_2 4 rfl rfl)
theorem dX3_put_53 : decode cX3_put 53 = .ok (.iload_n 3, 1) := dk_29 (dk_at dksX3_put_2 7 rfl rfl)
theorem dX3_put_54 : decode cX3_put 54 = .ok (.goto 5, 3) := dk_167 0 5 (dk_at dksX3_put_2 8 rfl rfl)
theorem dX3_put_57 : decode cX3_put 57 = .ok (.iload 4, 2) := dk_21 4 (dk_at dksX3_put_2 11 rfl rfl)
theorem dX3_put_59 : decode cX3_put 59 = .ok (.istore 6, 2) := dk_54 6 (dk_at dksX3_put_2 13 rfl rfl)
theorem dX3_put_61 : decode cX3_put 61 = .ok (.aload_n 0, 1) := dk_42 (dk_at dksX3_put_2 15 rfl rfl)
theorem dX3_put_62 : decode cX3_put 62 = .ok (.getfield 13, 3) := dk_180 0 13 (dk_at dksX3_put_2 16 rfl rfl)
theorem dX3_put_65 : decode cX3_put 65 = .ok (.aload_n 0, 1) := dk_42 (dk_at dksX3_put_2 19 rfl rfl)
theorem dX3_put_66 : decode cX3_put 66 = .ok (.getfield 29, 3) := dk_180 0 29 (dk_at dksX3_put_2 20 rfl rfl)
theorem dX3_put_69 : decode cX3_put 69 = .ok (.iload 5, 2) := dk_21 5 (dk_at dksX3_put_3 0 rfl rfl)
theorem dX3_put_71 : decode cX3_put 71 = .ok (.iadd, 1) := dk_96 (dk_at dksX3_put_3 2 rfl rfl)
theorem dX3_put_72 : decode cX3_put 72 = .ok (.iload 6, 2) := dk_21 6 (dk_at dksX3_put_3 3 rfl rfl)
theorem dX3_put_74 : decode cX3_put 74 = .ok (.bipush 24, 2) := dk_16 24 (dk_at dksX3_put_3 5 rfl rfl)
theorem dX3_put_76 : decode cX3_put 76 = .ok (.bipush 8, 2) := dk_16 8 (dk_at dksX3_put_3 7 rfl rfl)
theorem dX3_put_78 : decode cX3_put 78 = .ok (.iload 5, 2) := dk_21 5 (dk_at dksX3_put_3 9 rfl rfl)
theorem dX3_put_80 : decode cX3_put 80 = .ok (.iconst 4, 1) := dk_7 (dk_at dksX3_put_3 11 rfl rfl)
theorem dX3_put_81 : decode cX3_put 81 = .ok (.irem, 1) := dk_112 (dk_at dksX3_put_3 12 rfl rfl)
theorem dX3_put_82 : decode cX3_put 82 = .ok (.imul, 1) := dk_104 (dk_at dksX3_put_3 13 rfl rfl)
theorem dX3_put_83 : decode cX3_put 83 = .ok (.isub, 1) := dk_100 (dk_at dksX3_put_3 14 rfl rfl)
theorem dX3_put_84 : decode cX3_put 84 = .ok (.iushr, 1) := dk_124 (dk_at dksX3_put_3 15 rfl rfl)
theorem dX3_put_85 : decode cX3_put 85 = .ok (.i2b, 1) := dk_145 (dk_at dksX3_put_3 16 rfl rfl)
theorem dX3_put_86 : decode cX3_put 86 = .ok (.bastore, 1) := dk_84 (dk_at dksX3_put_3 17 rfl rfl)
theorem dX3_put_87 : decode cX3_put 87 = .ok (.iinc 5 1, 3) := dk_132 5 1 (dk_at dksX3_put_3 18 rfl rfl)
theorem dX3_put_90 : decode cX3_put 90 = .ok (.goto (-72), 3) := dk_167 255 184 (dk_at dksX3_put_3 21 rfl rfl)
theorem dX3_put_93 : decode cX3_put 93 = .ok (.aload_n 0, 1) := dk_42 (dk_at dksX3_put_4 0 rfl rfl)
theorem dX3_put_94 : decode cX3_put 94 = .ok (.dup, 1) := dk_89 (dk_at dksX3_put_4 1 rfl rfl)
theorem dX3_put_95 : decode cX3_put 95 = .ok (.getfield 29, 3) := dk_180 0 29 (dk_at dksX3_put_4 2 rfl rfl)
theorem dX3_put_98 : decode cX3_put 98 = .ok (.bipush 16, 2) := dk_16 16 (dk_at dksX3_put_4 5 rfl rfl)
theorem dX3_put_100 : decode cX3_put 100 = .ok (.iadd, 1) := dk_96 (dk_at dksX3_put_4 7 rfl rfl)
theorem dX3_put_101 : decode cX3_put 101 = .ok (.putfield 29, 3) := dk_181 0 29 (dk_at dksX3_put_4 8 rfl rfl)
theorem dX3_put_104 : decode cX3_put 104 = .ok (.iconst 1, 1) := dk_4 (dk_at dksX3_put_4 11 rfl rfl)
theorem dX3_put_105 : decode cX3_put 105 = .ok (.ireturn, 1) := dk_172 (dk_at dksX3_put_4 12 rfl rfl)
abbrev cX3_trim : ByteArray := prog_9_method_3_code
def yX3_trim : MethodName := ⟨RX3, "trim", "(I)V"⟩
def dkwX3_trim_0 : List UInt8 := [42, 42, 27, 182, 0, 33, 181, 0, 29, 177]
abbrev dktX3_trim_0 : List UInt8 := dkwX3_trim_0 ++ []
theorem dksX3_trim_0 : cX3_trim.data.toList.drop 0 = dktX3_trim_0 := by decide +kernel
theorem dX3_trim_0 : decode cX3_trim 0 = .ok (.aload_n 0, 1) := dk_42 (dk_at dksX3_trim_0 0 rfl rfl)
theorem dX3_trim_1 : decode cX3_trim 1 = .ok (.aload_n 0, 1) := dk_42 (dk_at dksX3_trim_0 1 rfl rfl)
theorem dX3_trim_2 : decode cX3_trim 2 = .ok (.iload_n 1, 1) := dk_27 (dk_at dksX3_trim_0 2 rfl rfl)
theorem dX3_trim_3 : decode cX3_trim 3 = .ok (.invokevirtual 33, 3) := dk_182 0 33 (dk_at dksX3_trim_0 3 rfl rfl)
theorem dX3_trim_6 : decode cX3_trim 6 = .ok (.putfield 29, 3) := dk_181 0 29 (dk_at dksX3_trim_0 6 rfl rfl)
theorem dX3_trim_9 : decode cX3_trim 9 = .ok (.return_, 1) := dk_177 (dk_at dksX3_trim_0 9 rfl rfl)
abbrev cX3_from : ByteArray := prog_9_method_4_code
def yX3_from : MethodName := ⟨RX3, "from", "(I)I"⟩
def dkwX3_from_0 : List UInt8 := [27, 18, 37, 126, 42, 180, 0, 29, 4, 96, 112, 172]
abbrev dktX3_from_0 : List UInt8 := dkwX3_from_0 ++ []
theorem dksX3_from_0 : cX3_from.data.toList.drop 0 = dktX3_from_0 := by decide +kernel
theorem dX3_from_0 : decode cX3_from 0 = .ok (.iload_n 1, 1) := dk_27 (dk_at dksX3_from_0 0 rfl rfl)
theorem dX3_from_1 : decode cX3_from 1 = .ok (.ldc 37, 2) := dk_18 37 (dk_at dksX3_from_0 1 rfl rfl)
theorem dX3_from_3 : decode cX3_from 3 = .ok (.iand, 1) := dk_126 (dk_at dksX3_from_0 3 rfl rfl)
theorem dX3_from_4 : decode cX3_from 4 = .ok (.aload_n 0, 1) := dk_42 (dk_at dksX3_from_0 4 rfl rfl)
theorem dX3_from_5 : decode cX3_from 5 = .ok (.getfield 29, 3) := dk_180 0 29 (dk_at dksX3_from_0 5 rfl rfl)
theorem dX3_from_8 : decode cX3_from 8 = .ok (.iconst 1, 1) := dk_4 (dk_at dksX3_from_0 8 rfl rfl)
theorem dX3_from_9 : decode cX3_from 9 = .ok (.iadd, 1) := dk_96 (dk_at dksX3_from_0 9 rfl rfl)
theorem dX3_from_10 : decode cX3_from 10 = .ok (.irem, 1) := dk_112 (dk_at dksX3_from_0 10 rfl rfl)
theorem dX3_from_11 : decode cX3_from 11 = .ok (.ireturn, 1) := dk_172 (dk_at dksX3_from_0 11 rfl rfl)
abbrev cX3_begin : ByteArray := prog_9_method_6_code
def yX3_begin : MethodName := ⟨RX3, "begin", "(I)V"⟩
def dkwX3_begin_0 : List UInt8 := [42, 3, 181, 0, 38, 177]
abbrev dktX3_begin_0 : List UInt8 := dkwX3_begin_0 ++ []
theorem dksX3_begin_0 : cX3_begin.data.toList.drop 0 = dktX3_begin_0 := by decide +kernel
theorem dX3_begin_0 : decode cX3_begin 0 = .ok (.aload_n 0, 1) := dk_42 (dk_at dksX3_begin_0 0 rfl rfl)
theorem dX3_begin_1 : decode cX3_begin 1 = .ok (.iconst 0, 1) := dk_3 (dk_at dksX3_begin_0 1 rfl rfl)
theorem dX3_begin_2 : decode cX3_begin 2 = .ok (.putfield 38, 3) := dk_181 0 38 (dk_at dksX3_begin_0 2 rfl rfl)
theorem dX3_begin_5 : decode cX3_begin 5 = .ok (.return_, 1) := dk_177 (dk_at dksX3_begin_0 5 rfl rfl)
abbrev cX3_feed : ByteArray := prog_9_method_7_code
def yX3_feed : MethodName := ⟨RX3, "feed", "(II)Z"⟩
def dkwX3_feed_3 : List UInt8 := [21, 4, 96, 181, 0, 38, 4, 172]
abbrev dktX3_feed_3 : List UInt8 := dkwX3_feed_3 ++ []
def dkwX3_feed_2 : List UInt8 := [21, 5, 96, 42, 180, 0, 13, 29, 21, 5, 96, 51, 84, 132, 5, 1, 167, 255, 225, 42, 89, 180, 0, 38]
abbrev dktX3_feed_2 : List UInt8 := dkwX3_feed_2 ++ dktX3_feed_3
def dkwX3_feed_1 : List UInt8 := [164, 0, 5, 3, 172, 3, 54, 5, 21, 5, 21, 4, 162, 0, 30, 42, 180, 0, 16, 42, 180, 0, 38]
abbrev dktX3_feed_1 : List UInt8 := dkwX3_feed_1 ++ dktX3_feed_2
def dkwX3_feed_0 : List UInt8 := [42, 27, 182, 0, 33, 62, 42, 29, 28, 182, 0, 41, 54, 4, 42, 180, 0, 38, 21, 4, 96, 17, 64, 0]
abbrev dktX3_feed_0 : List UInt8 := dkwX3_feed_0 ++ dktX3_feed_1
theorem dksX3_feed_0 : cX3_feed.data.toList.drop 0 = dktX3_feed_0 := by decide +kernel
theorem dksX3_feed_1 : cX3_feed.data.toList.drop 24 = dktX3_feed_1 := dk_seg dksX3_feed_0 24 rfl rfl
theorem dksX3_feed_2 : cX3_feed.data.toList.drop 47 = dktX3_feed_2 := dk_seg dksX3_feed_1 23 rfl rfl
theorem dksX3_feed_3 : cX3_feed.data.toList.drop 71 = dktX3_feed_3 := dk_seg dksX3_feed_2 24 rfl rfl
theorem dX3_feed_0 : decode cX3_feed 0 = .ok (.aload_n 0, 1) := dk_42 (dk_at dksX3_feed_0 0 rfl rfl)
theorem dX3_feed_1 : decode cX3_feed 1 = .ok (.iload_n 1, 1) := dk_27 (dk_at dksX3_feed_0 1 rfl rfl)
theorem dX3_feed_2 : decode cX3_feed 2 = .ok (.invokevirtual 33, 3) := dk_182 0 33 (dk_at dksX3_feed_0 2 rfl rfl)
theorem dX3_feed_5 : decode cX3_feed 5 = .ok (.istore_n 3, 1) := dk_62 (dk_at dksX3_feed_0 5 rfl rfl)
theorem dX3_feed_6 : decode cX3_feed 6 = .ok (.aload_n 0, 1) := dk_42 (dk_at dksX3_feed_0 6 rfl rfl)
theorem dX3_feed_7 : decode cX3_feed 7 = .ok (.iload_n 3, 1) := dk_29 (dk_at dksX3_feed_0 7 rfl rfl)
theorem dX3_feed_8 : decode cX3_feed 8 = .ok (.iload_n 2, 1) := dk_28 (dk_at dksX3_feed_0 8 rfl rfl)
theorem dX3_feed_9 : decode cX3_feed 9 = .ok (.invokevirtual 41, 3) := dk_182 0 41 (dk_at dksX3_feed_0 9 rfl rfl)
theorem dX3_feed_12 : decode cX3_feed 12 = .ok (.istore 4, 2) := dk_54 4 (dk_at dksX3_feed_0 12 rfl rfl)
theorem dX3_feed_14 : decode cX3_feed 14 = .ok (.aload_n 0, 1) := dk_42 (dk_at dksX3_feed_0 14 rfl rfl)
theorem dX3_feed_15 : decode cX3_feed 15 = .ok (.getfield 38, 3) := dk_180 0 38 (dk_at dksX3_feed_0 15 rfl rfl)
theorem dX3_feed_18 : decode cX3_feed 18 = .ok (.iload 4, 2) := dk_21 4 (dk_at dksX3_feed_0 18 rfl rfl)
theorem dX3_feed_20 : decode cX3_feed 20 = .ok (.iadd, 1) := dk_96 (dk_at dksX3_feed_0 20 rfl rfl)
theorem dX3_feed_21 : decode cX3_feed 21 = .ok (.sipush 16384, 3) := dk_17 64 0 (dk_at dksX3_feed_0 21 rfl rfl)
theorem dX3_feed_24 : decode cX3_feed 24 = .ok (.if_icmp .le 5, 3) := dk_164 0 5 (dk_at dksX3_feed_1 0 rfl rfl)
theorem dX3_feed_27 : decode cX3_feed 27 = .ok (.iconst 0, 1) := dk_3 (dk_at dksX3_feed_1 3 rfl rfl)
theorem dX3_feed_28 : decode cX3_feed 28 = .ok (.ireturn, 1) := dk_172 (dk_at dksX3_feed_1 4 rfl rfl)
theorem dX3_feed_29 : decode cX3_feed 29 = .ok (.iconst 0, 1) := dk_3 (dk_at dksX3_feed_1 5 rfl rfl)
theorem dX3_feed_30 : decode cX3_feed 30 = .ok (.istore 5, 2) := dk_54 5 (dk_at dksX3_feed_1 6 rfl rfl)
theorem dX3_feed_32 : decode cX3_feed 32 = .ok (.iload 5, 2) := dk_21 5 (dk_at dksX3_feed_1 8 rfl rfl)
theorem dX3_feed_34 : decode cX3_feed 34 = .ok (.iload 4, 2) := dk_21 4 (dk_at dksX3_feed_1 10 rfl rfl)
theorem dX3_feed_36 : decode cX3_feed 36 = .ok (.if_icmp .ge 30, 3) := dk_162 0 30 (dk_at dksX3_feed_1 12 rfl rfl)
theorem dX3_feed_39 : decode cX3_feed 39 = .ok (.aload_n 0, 1) := dk_42 (dk_at dksX3_feed_1 15 rfl rfl)
theorem dX3_feed_40 : decode cX3_feed 40 = .ok (.getfield 16, 3) := dk_180 0 16 (dk_at dksX3_feed_1 16 rfl rfl)
theorem dX3_feed_43 : decode cX3_feed 43 = .ok (.aload_n 0, 1) := dk_42 (dk_at dksX3_feed_1 19 rfl rfl)
theorem dX3_feed_44 : decode cX3_feed 44 = .ok (.getfield 38, 3) := dk_180 0 38 (dk_at dksX3_feed_1 20 rfl rfl)
theorem dX3_feed_47 : decode cX3_feed 47 = .ok (.iload 5, 2) := dk_21 5 (dk_at dksX3_feed_2 0 rfl rfl)
theorem dX3_feed_49 : decode cX3_feed 49 = .ok (.iadd, 1) := dk_96 (dk_at dksX3_feed_2 2 rfl rfl)
theorem dX3_feed_50 : decode cX3_feed 50 = .ok (.aload_n 0, 1) := dk_42 (dk_at dksX3_feed_2 3 rfl rfl)
theorem dX3_feed_51 : decode cX3_feed 51 = .ok (.getfield 13, 3) := dk_180 0 13 (dk_at dksX3_feed_2 4 rfl rfl)
theorem dX3_feed_54 : decode cX3_feed 54 = .ok (.iload_n 3, 1) := dk_29 (dk_at dksX3_feed_2 7 rfl rfl)
theorem dX3_feed_55 : decode cX3_feed 55 = .ok (.iload 5, 2) := dk_21 5 (dk_at dksX3_feed_2 8 rfl rfl)
theorem dX3_feed_57 : decode cX3_feed 57 = .ok (.iadd, 1) := dk_96 (dk_at dksX3_feed_2 10 rfl rfl)
theorem dX3_feed_58 : decode cX3_feed 58 = .ok (.baload, 1) := dk_51 (dk_at dksX3_feed_2 11 rfl rfl)
theorem dX3_feed_59 : decode cX3_feed 59 = .ok (.bastore, 1) := dk_84 (dk_at dksX3_feed_2 12 rfl rfl)
theorem dX3_feed_60 : decode cX3_feed 60 = .ok (.iinc 5 1, 3) := dk_132 5 1 (dk_at dksX3_feed_2 13 rfl rfl)
theorem dX3_feed_63 : decode cX3_feed 63 = .ok (.goto (-31), 3) := dk_167 255 225 (dk_at dksX3_feed_2 16 rfl rfl)
theorem dX3_feed_66 : decode cX3_feed 66 = .ok (.aload_n 0, 1) := dk_42 (dk_at dksX3_feed_2 19 rfl rfl)
theorem dX3_feed_67 : decode cX3_feed 67 = .ok (.dup, 1) := dk_89 (dk_at dksX3_feed_2 20 rfl rfl)
theorem dX3_feed_68 : decode cX3_feed 68 = .ok (.getfield 38, 3) := dk_180 0 38 (dk_at dksX3_feed_2 21 rfl rfl)
theorem dX3_feed_71 : decode cX3_feed 71 = .ok (.iload 4, 2) := dk_21 4 (dk_at dksX3_feed_3 0 rfl rfl)
theorem dX3_feed_73 : decode cX3_feed 73 = .ok (.iadd, 1) := dk_96 (dk_at dksX3_feed_3 2 rfl rfl)
theorem dX3_feed_74 : decode cX3_feed 74 = .ok (.putfield 38, 3) := dk_181 0 38 (dk_at dksX3_feed_3 3 rfl rfl)
theorem dX3_feed_77 : decode cX3_feed 77 = .ok (.iconst 1, 1) := dk_4 (dk_at dksX3_feed_3 6 rfl rfl)
theorem dX3_feed_78 : decode cX3_feed 78 = .ok (.ireturn, 1) := dk_172 (dk_at dksX3_feed_3 7 rfl rfl)
abbrev cX3_count : ByteArray := prog_9_method_5_code
def yX3_count : MethodName := ⟨RX3, "count", "(II)I"⟩
def dkwX3_count_0 : List UInt8 := [28, 18, 37, 126, 42, 180, 0, 29, 27, 100, 4, 96, 112, 172]
abbrev dktX3_count_0 : List UInt8 := dkwX3_count_0 ++ []
theorem dksX3_count_0 : cX3_count.data.toList.drop 0 = dktX3_count_0 := by decide +kernel
theorem dX3_count_0 : decode cX3_count 0 = .ok (.iload_n 2, 1) := dk_28 (dk_at dksX3_count_0 0 rfl rfl)
theorem dX3_count_1 : decode cX3_count 1 = .ok (.ldc 37, 2) := dk_18 37 (dk_at dksX3_count_0 1 rfl rfl)
theorem dX3_count_3 : decode cX3_count 3 = .ok (.iand, 1) := dk_126 (dk_at dksX3_count_0 3 rfl rfl)
theorem dX3_count_4 : decode cX3_count 4 = .ok (.aload_n 0, 1) := dk_42 (dk_at dksX3_count_0 4 rfl rfl)
theorem dX3_count_5 : decode cX3_count 5 = .ok (.getfield 29, 3) := dk_180 0 29 (dk_at dksX3_count_0 5 rfl rfl)
theorem dX3_count_8 : decode cX3_count 8 = .ok (.iload_n 1, 1) := dk_27 (dk_at dksX3_count_0 8 rfl rfl)
theorem dX3_count_9 : decode cX3_count 9 = .ok (.isub, 1) := dk_100 (dk_at dksX3_count_0 9 rfl rfl)
theorem dX3_count_10 : decode cX3_count 10 = .ok (.iconst 1, 1) := dk_4 (dk_at dksX3_count_0 10 rfl rfl)
theorem dX3_count_11 : decode cX3_count 11 = .ok (.iadd, 1) := dk_96 (dk_at dksX3_count_0 11 rfl rfl)
theorem dX3_count_12 : decode cX3_count 12 = .ok (.irem, 1) := dk_112 (dk_at dksX3_count_0 12 rfl rfl)
theorem dX3_count_13 : decode cX3_count 13 = .ok (.ireturn, 1) := dk_172 (dk_at dksX3_count_0 13 rfl rfl)
abbrev cX3_one : ByteArray := prog_9_method_8_code
def yX3_one : MethodName := ⟨RX3, "one", "(I)Z"⟩
def dkwX3_one_1 : List UInt8 := [89, 180, 0, 38, 4, 96, 181, 0, 38, 4, 172]
abbrev dktX3_one_1 : List UInt8 := dkwX3_one_1 ++ []
def dkwX3_one_0 : List UInt8 := [42, 180, 0, 38, 17, 64, 0, 161, 0, 5, 3, 172, 42, 180, 0, 16, 42, 180, 0, 38, 27, 145, 84, 42]
abbrev dktX3_one_0 : List UInt8 := dkwX3_one_0 ++ dktX3_one_1
theorem dksX3_one_0 : cX3_one.data.toList.drop 0 = dktX3_one_0 := by decide +kernel
theorem dksX3_one_1 : cX3_one.data.toList.drop 24 = dktX3_one_1 := dk_seg dksX3_one_0 24 rfl rfl
theorem dX3_one_0 : decode cX3_one 0 = .ok (.aload_n 0, 1) := dk_42 (dk_at dksX3_one_0 0 rfl rfl)
theorem dX3_one_1 : decode cX3_one 1 = .ok (.getfield 38, 3) := dk_180 0 38 (dk_at dksX3_one_0 1 rfl rfl)
theorem dX3_one_4 : decode cX3_one 4 = .ok (.sipush 16384, 3) := dk_17 64 0 (dk_at dksX3_one_0 4 rfl rfl)
theorem dX3_one_7 : decode cX3_one 7 = .ok (.if_icmp .lt 5, 3) := dk_161 0 5 (dk_at dksX3_one_0 7 rfl rfl)
theorem dX3_one_10 : decode cX3_one 10 = .ok (.iconst 0, 1) := dk_3 (dk_at dksX3_one_0 10 rfl rfl)
theorem dX3_one_11 : decode cX3_one 11 = .ok (.ireturn, 1) := dk_172 (dk_at dksX3_one_0 11 rfl rfl)
theorem dX3_one_12 : decode cX3_one 12 = .ok (.aload_n 0, 1) := dk_42 (dk_at dksX3_one_0 12 rfl rfl)
theorem dX3_one_13 : decode cX3_one 13 = .ok (.getfield 16, 3) := dk_180 0 16 (dk_at dksX3_one_0 13 rfl rfl)
theorem dX3_one_16 : decode cX3_one 16 = .ok (.aload_n 0, 1) := dk_42 (dk_at dksX3_one_0 16 rfl rfl)
theorem dX3_one_17 : decode cX3_one 17 = .ok (.getfield 38, 3) := dk_180 0 38 (dk_at dksX3_one_0 17 rfl rfl)
theorem dX3_one_20 : decode cX3_one 20 = .ok (.iload_n 1, 1) := dk_27 (dk_at dksX3_one_0 20 rfl rfl)
theorem dX3_one_21 : decode cX3_one 21 = .ok (.i2b, 1) := dk_145 (dk_at dksX3_one_0 21 rfl rfl)
theorem dX3_one_22 : decode cX3_one 22 = .ok (.bastore, 1) := dk_84 (dk_at dksX3_one_0 22 rfl rfl)
theorem dX3_one_23 : decode cX3_one 23 = .ok (.aload_n 0, 1) := dk_42 (dk_at dksX3_one_0 23 rfl rfl)
theorem dX3_one_24 : decode cX3_one 24 = .ok (.dup, 1) := dk_89 (dk_at dksX3_one_1 0 rfl rfl)
theorem dX3_one_25 : decode cX3_one 25 = .ok (.getfield 38, 3) := dk_180 0 38 (dk_at dksX3_one_1 1 rfl rfl)
theorem dX3_one_28 : decode cX3_one 28 = .ok (.iconst 1, 1) := dk_4 (dk_at dksX3_one_1 4 rfl rfl)
theorem dX3_one_29 : decode cX3_one 29 = .ok (.iadd, 1) := dk_96 (dk_at dksX3_one_1 5 rfl rfl)
theorem dX3_one_30 : decode cX3_one 30 = .ok (.putfield 38, 3) := dk_181 0 38 (dk_at dksX3_one_1 6 rfl rfl)
theorem dX3_one_33 : decode cX3_one 33 = .ok (.iconst 1, 1) := dk_4 (dk_at dksX3_one_1 9 rfl rfl)
theorem dX3_one_34 : decode cX3_one 34 = .ok (.ireturn, 1) := dk_172 (dk_at dksX3_one_1 10 rfl rfl)
abbrev cX3_close : ByteArray := prog_9_method_16_code
def yX3_close : MethodName := ⟨RX3, "close", "()I"⟩
def dkwX3_close_4 : List UInt8 := [132, 2, 1, 167, 255, 222, 42, 3, 181, 0, 38, 16, 32, 172]
abbrev dktX3_close_4 : List UInt8 := dkwX3_close_4 ++ []
def dkwX3_close_3 : List UInt8 := [180, 0, 7, 28, 42, 180, 0, 23, 28, 7, 108, 46, 16, 24, 16, 8, 28, 7, 112, 104, 100, 124, 145, 84]
abbrev dktX3_close_3 : List UInt8 := dkwX3_close_3 ++ dktX3_close_4
def dkwX3_close_2 : List UInt8 := [162, 0, 15, 42, 28, 27, 182, 0, 78, 132, 2, 64, 167, 255, 242, 3, 61, 28, 16, 32, 162, 0, 34, 42]
abbrev dktX3_close_2 : List UInt8 := dkwX3_close_2 ++ dktX3_close_3
def dkwX3_close_1 : List UInt8 := [162, 0, 19, 42, 180, 0, 23, 28, 28, 184, 0, 75, 79, 132, 2, 1, 167, 255, 237, 3, 61, 28, 27]
abbrev dktX3_close_1 : List UInt8 := dkwX3_close_1 ++ dktX3_close_2
def dkwX3_close_0 : List UInt8 := [42, 180, 0, 38, 16, 9, 96, 16, 63, 96, 16, 64, 108, 16, 64, 104, 60, 3, 61, 28, 16, 8]
abbrev dktX3_close_0 : List UInt8 := dkwX3_close_0 ++ dktX3_close_1
theorem dksX3_close_0 : cX3_close.data.toList.drop 0 = dktX3_close_0 := by decide +kernel
theorem dksX3_close_1 : cX3_close.data.toList.drop 22 = dktX3_close_1 := dk_seg dksX3_close_0 22 rfl rfl
theorem dksX3_close_2 : cX3_close.data.toList.drop 45 = dktX3_close_2 := dk_seg dksX3_close_1 23 rfl rfl
theorem dksX3_close_3 : cX3_close.data.toList.drop 69 = dktX3_close_3 := dk_seg dksX3_close_2 24 rfl rfl
theorem dksX3_close_4 : cX3_close.data.toList.drop 93 = dktX3_close_4 := dk_seg dksX3_close_3 24 rfl rfl
theorem dX3_close_0 : decode cX3_close 0 = .ok (.aload_n 0, 1) := dk_42 (dk_at dksX3_close_0 0 rfl rfl)
theorem dX3_close_1 : decode cX3_close 1 = .ok (.getfield 38, 3) := dk_180 0 38 (dk_at dksX3_close_0 1 rfl rfl)
theorem dX3_close_4 : decode cX3_close 4 = .ok (.bipush 9, 2) := dk_16 9 (dk_at dksX3_close_0 4 rfl rfl)
theorem dX3_close_6 : decode cX3_close 6 = .ok (.iadd, 1) := dk_96 (dk_at dksX3_close_0 6 rfl rfl)
theorem dX3_close_7 : decode cX3_close 7 = .ok (.bipush 63, 2) := dk_16 63 (dk_at dksX3_close_0 7 rfl rfl)
theorem dX3_close_9 : decode cX3_close 9 = .ok (.iadd, 1) := dk_96 (dk_at dksX3_close_0 9 rfl rfl)
theorem dX3_close_10 : decode cX3_close 10 = .ok (.bipush 64, 2) := dk_16 64 (dk_at dksX3_close_0 10 rfl rfl)
theorem dX3_close_12 : decode cX3_close 12 = .ok (.idiv, 1) := dk_108 (dk_at dksX3_close_0 12 rfl rfl)
theorem dX3_close_13 : decode cX3_close 13 = .ok (.bipush 64, 2) := dk_16 64 (dk_at dksX3_close_0 13 rfl rfl)
theorem dX3_close_15 : decode cX3_close 15 = .ok (.imul, 1) := dk_104 (dk_at dksX3_close_0 15 rfl rfl)
theorem dX3_close_16 : decode cX3_close 16 = .ok (.istore_n 1, 1) := dk_60 (dk_at dksX3_close_0 16 rfl rfl)
theorem dX3_close_17 : decode cX3_close 17 = .ok (.iconst 0, 1) := dk_3 (dk_at dksX3_close_0 17 rfl rfl)
theorem dX3_close_18 : decode cX3_close 18 = .ok (.istore_n 2, 1) := dk_61 (dk_at dksX3_close_0 18 rfl rfl)
theorem dX3_close_19 : decode cX3_close 19 = .ok (.iload_n 2, 1) := dk_28 (dk_at dksX3_close_0 19 rfl rfl)
theorem dX3_close_20 : decode cX3_close 20 = .ok (.bipush 8, 2) := dk_16 8 (dk_at dksX3_close_0 20 rfl rfl)
theorem dX3_close_22 : decode cX3_close 22 = .ok (.if_icmp .ge 19, 3) := dk_162 0 19 (dk_at dksX3_close_1 0 rfl rfl)
theorem dX3_close_25 : decode cX3_close 25 = .ok (.aload_n 0, 1) := dk_42 (dk_at dksX3_close_1 3 rfl rfl)
theorem dX3_close_26 : decode cX3_close 26 = .ok (.getfield 23, 3) := dk_180 0 23 (dk_at dksX3_close_1 4 rfl rfl)
theorem dX3_close_29 : decode cX3_close 29 = .ok (.iload_n 2, 1) := dk_28 (dk_at dksX3_close_1 7 rfl rfl)
theorem dX3_close_30 : decode cX3_close 30 = .ok (.iload_n 2, 1) := dk_28 (dk_at dksX3_close_1 8 rfl rfl)
theorem dX3_close_31 : decode cX3_close 31 = .ok (.invokestatic 75, 3) := dk_184 0 75 (dk_at dksX3_close_1 9 rfl rfl)
theorem dX3_close_34 : decode cX3_close 34 = .ok (.iastore, 1) := dk_79 (dk_at dksX3_close_1 12 rfl rfl)
theorem dX3_close_35 : decode cX3_close 35 = .ok (.iinc 2 1, 3) := dk_132 2 1 (dk_at dksX3_close_1 13 rfl rfl)
theorem dX3_close_38 : decode cX3_close 38 = .ok (.goto (-19), 3) := dk_167 255 237 (dk_at dksX3_close_1 16 rfl rfl)
theorem dX3_close_41 : decode cX3_close 41 = .ok (.iconst 0, 1) := dk_3 (dk_at dksX3_close_1 19 rfl rfl)
theorem dX3_close_42 : decode cX3_close 42 = .ok (.istore_n 2, 1) := dk_61 (dk_at dksX3_close_1 20 rfl rfl)
theorem dX3_close_43 : decode cX3_close 43 = .ok (.iload_n 2, 1) := dk_28 (dk_at dksX3_close_1 21 rfl rfl)
theorem dX3_close_44 : decode cX3_close 44 = .ok (.iload_n 1, 1) := dk_27 (dk_at dksX3_close_1 22 rfl rfl)
theorem dX3_close_45 : decode cX3_close 45 = .ok (.if_icmp .ge 15, 3) := dk_162 0 15 (dk_at dksX3_close_2 0 rfl rfl)
theorem dX3_close_48 : decode cX3_close 48 = .ok (.aload_n 0, 1) := dk_42 (dk_at dksX3_close_2 3 rfl rfl)
theorem dX3_close_49 : decode cX3_close 49 = .ok (.iload_n 2, 1) := dk_28 (dk_at dksX3_close_2 4 rfl rfl)
theorem dX3_close_50 : decode cX3_close 50 = .ok (.iload_n 1, 1) := dk_27 (dk_at dksX3_close_2 5 rfl rfl)
theorem dX3_close_51 : decode cX3_close 51 = .ok (.invokevirtual 78, 3) := dk_182 0 78 (dk_at dksX3_close_2 6 rfl rfl)
theorem dX3_close_54 : decode cX3_close 54 = .ok (.iinc 2 64, 3) := dk_132 2 64 (dk_at dksX3_close_2 9 rfl rfl)
theorem dX3_close_57 : decode cX3_close 57 = .ok (.goto (-14), 3) := dk_167 255 242 (dk_at dksX3_close_2 12 rfl rfl)
theorem dX3_close_60 : decode cX3_close 60 = .ok (.iconst 0, 1) := dk_3 (dk_at dksX3_close_2 15 rfl rfl)
theorem dX3_close_61 : decode cX3_close 61 = .ok (.istore_n 2, 1) := dk_61 (dk_at dksX3_close_2 16 rfl rfl)
theorem dX3_close_62 : decode cX3_close 62 = .ok (.iload_n 2, 1) := dk_28 (dk_at dksX3_close_2 17 rfl rfl)
theorem dX3_close_63 : decode cX3_close 63 = .ok (.bipush 32, 2) := dk_16 32 (dk_at dksX3_close_2 18 rfl rfl)
theorem dX3_close_65 : decode cX3_close 65 = .ok (.if_icmp .ge 34, 3) := dk_162 0 34 (dk_at dksX3_close_2 20 rfl rfl)
theorem dX3_close_68 : decode cX3_close 68 = .ok (.aload_n 0, 1) := dk_42 (dk_at dksX3_close_2 23 rfl rfl)
theorem dX3_close_69 : decode cX3_close 69 = .ok (.getfield 7, 3) := dk_180 0 7 (dk_at dksX3_close_3 0 rfl rfl)
theorem dX3_close_72 : decode cX3_close 72 = .ok (.iload_n 2, 1) := dk_28 (dk_at dksX3_close_3 3 rfl rfl)
theorem dX3_close_73 : decode cX3_close 73 = .ok (.aload_n 0, 1) := dk_42 (dk_at dksX3_close_3 4 rfl rfl)
theorem dX3_close_74 : decode cX3_close 74 = .ok (.getfield 23, 3) := dk_180 0 23 (dk_at dksX3_close_3 5 rfl rfl)
theorem dX3_close_77 : decode cX3_close 77 = .ok (.iload_n 2, 1) := dk_28 (dk_at dksX3_close_3 8 rfl rfl)
theorem dX3_close_78 : decode cX3_close 78 = .ok (.iconst 4, 1) := dk_7 (dk_at dksX3_close_3 9 rfl rfl)
theorem dX3_close_79 : decode cX3_close 79 = .ok (.idiv, 1) := dk_108 (dk_at dksX3_close_3 10 rfl rfl)
theorem dX3_close_80 : decode cX3_close 80 = .ok (.iaload, 1) := dk_46 (dk_at dksX3_close_3 11 rfl rfl)
theorem dX3_close_81 : decode cX3_close 81 = .ok (.bipush 24, 2) := dk_16 24 (dk_at dksX3_close_3 12 rfl rfl)
theorem dX3_close_83 : decode cX3_close 83 = .ok (.bipush 8, 2) := dk_16 8 (dk_at dksX3_close_3 14 rfl rfl)
theorem dX3_close_85 : decode cX3_close 85 = .ok (.iload_n 2, 1) := dk_28 (dk_at dksX3_close_3 16 rfl rfl)
theorem dX3_close_86 : decode cX3_close 86 = .ok (.iconst 4, 1) := dk_7 (dk_at dksX3_close_3 17 rfl rfl)
theorem dX3_close_87 : decode cX3_close 87 = .ok (.irem, 1) := dk_112 (dk_at dksX3_close_3 18 rfl rfl)
theorem dX3_close_88 : decode cX3_close 88 = .ok (.imul, 1) := dk_104 (dk_at dksX3_close_3 19 rfl rfl)
theorem dX3_close_89 : decode cX3_close 89 = .ok (.isub, 1) := dk_100 (dk_at dksX3_close_3 20 rfl rfl)
theorem dX3_close_90 : decode cX3_close 90 = .ok (.iushr, 1) := dk_124 (dk_at dksX3_close_3 21 rfl rfl)
theorem dX3_close_91 : decode cX3_close 91 = .ok (.i2b, 1) := dk_145 (dk_at dksX3_close_3 22 rfl rfl)
theorem dX3_close_92 : decode cX3_close 92 = .ok (.bastore, 1) := dk_84 (dk_at dksX3_close_3 23 rfl rfl)
theorem dX3_close_93 : decode cX3_close 93 = .ok (.iinc 2 1, 3) := dk_132 2 1 (dk_at dksX3_close_4 0 rfl rfl)
theorem dX3_close_96 : decode cX3_close 96 = .ok (.goto (-34), 3) := dk_167 255 222 (dk_at dksX3_close_4 3 rfl rfl)
theorem dX3_close_99 : decode cX3_close 99 = .ok (.aload_n 0, 1) := dk_42 (dk_at dksX3_close_4 6 rfl rfl)
theorem dX3_close_100 : decode cX3_close 100 = .ok (.iconst 0, 1) := dk_3 (dk_at dksX3_close_4 7 rfl rfl)
theorem dX3_close_101 : decode cX3_close 101 = .ok (.putfield 38, 3) := dk_181 0 38 (dk_at dksX3_close_4 8 rfl rfl)
theorem dX3_close_104 : decode cX3_close 104 = .ok (.bipush 32, 2) := dk_16 32 (dk_at dksX3_close_4 11 rfl rfl)
theorem dX3_close_106 : decode cX3_close 106 = .ok (.ireturn, 1) := dk_172 (dk_at dksX3_close_4 13 rfl rfl)
abbrev cX3_first : ByteArray := prog_9_method_12_code
def yX3_first : MethodName := ⟨RX3, "first", "(I)I"⟩
def dkwX3_first_2 : List UInt8 := [18, 48, 172, 18, 49, 172, 18, 50, 172, 18, 51, 172, 18, 52, 172, 18, 53, 172, 18, 54, 172, 18, 55, 172]
abbrev dktX3_first_2 : List UInt8 := dkwX3_first_2 ++ []
def dkwX3_first_1 : List UInt8 := [170, 0, 0, 0, 0, 0, 64, 0, 0, 0, 0, 0, 0, 0, 6, 0, 0, 0, 43, 0, 0, 0, 46, 0, 0, 0, 49, 0, 0, 0, 52, 0, 0, 0, 55, 0, 0, 0, 58, 0, 0, 0, 61]
abbrev dktX3_first_1 : List UInt8 := dkwX3_first_1 ++ dktX3_first_2
def dkwX3_first_0 : List UInt8 := [26]
abbrev dktX3_first_0 : List UInt8 := dkwX3_first_0 ++ dktX3_first_1
theorem dksX3_first_0 : cX3_first.data.toList.drop 0 = dktX3_first_0 := by decide +kernel
theorem dksX3_first_1 : cX3_first.data.toList.drop 1 = dktX3_first_1 := dk_seg dksX3_first_0 1 rfl rfl
theorem dksX3_first_2 : cX3_first.data.toList.drop 44 = dktX3_first_2 := dk_seg dksX3_first_1 43 rfl rfl
theorem dX3_first_0 : decode cX3_first 0 = .ok (.iload_n 0, 1) := dk_26 (dk_at dksX3_first_0 0 rfl rfl)
theorem dX3_first_1 : decode cX3_first 1 = .ok (.tableswitch 64 0 6 #[43, 46, 49, 52, 55, 58, 61], 43) := by decide +kernel
theorem dX3_first_44 : decode cX3_first 44 = .ok (.ldc 48, 2) := dk_18 48 (dk_at dksX3_first_2 0 rfl rfl)
theorem dX3_first_46 : decode cX3_first 46 = .ok (.ireturn, 1) := dk_172 (dk_at dksX3_first_2 2 rfl rfl)
theorem dX3_first_47 : decode cX3_first 47 = .ok (.ldc 49, 2) := dk_18 49 (dk_at dksX3_first_2 3 rfl rfl)
theorem dX3_first_49 : decode cX3_first 49 = .ok (.ireturn, 1) := dk_172 (dk_at dksX3_first_2 5 rfl rfl)
theorem dX3_first_50 : decode cX3_first 50 = .ok (.ldc 50, 2) := dk_18 50 (dk_at dksX3_first_2 6 rfl rfl)
theorem dX3_first_52 : decode cX3_first 52 = .ok (.ireturn, 1) := dk_172 (dk_at dksX3_first_2 8 rfl rfl)
theorem dX3_first_53 : decode cX3_first 53 = .ok (.ldc 51, 2) := dk_18 51 (dk_at dksX3_first_2 9 rfl rfl)
theorem dX3_first_55 : decode cX3_first 55 = .ok (.ireturn, 1) := dk_172 (dk_at dksX3_first_2 11 rfl rfl)
theorem dX3_first_56 : decode cX3_first 56 = .ok (.ldc 52, 2) := dk_18 52 (dk_at dksX3_first_2 12 rfl rfl)
theorem dX3_first_58 : decode cX3_first 58 = .ok (.ireturn, 1) := dk_172 (dk_at dksX3_first_2 14 rfl rfl)
theorem dX3_first_59 : decode cX3_first 59 = .ok (.ldc 53, 2) := dk_18 53 (dk_at dksX3_first_2 15 rfl rfl)
theorem dX3_first_61 : decode cX3_first 61 = .ok (.ireturn, 1) := dk_172 (dk_at dksX3_first_2 17 rfl rfl)
theorem dX3_first_62 : decode cX3_first 62 = .ok (.ldc 54, 2) := dk_18 54 (dk_at dksX3_first_2 18 rfl rfl)
theorem dX3_first_64 : decode cX3_first 64 = .ok (.ireturn, 1) := dk_172 (dk_at dksX3_first_2 20 rfl rfl)
theorem dX3_first_65 : decode cX3_first 65 = .ok (.ldc 55, 2) := dk_18 55 (dk_at dksX3_first_2 21 rfl rfl)
theorem dX3_first_67 : decode cX3_first 67 = .ok (.ireturn, 1) := dk_172 (dk_at dksX3_first_2 23 rfl rfl)
abbrev cX3_block : ByteArray := prog_9_method_14_code
def yX3_block : MethodName := ⟨RX3, "block", "(II)V"⟩
def dkwX3_block_9 : List UInt8 := [130, 79, 132, 3, 1, 167, 255, 232, 177]
abbrev dktX3_block_9 : List UInt8 := dkwX3_block_9 ++ []
def dkwX3_block_8 : List UInt8 := [167, 255, 242, 3, 62, 29, 16, 8, 162, 0, 24, 42, 180, 0, 23, 29, 92, 46, 42, 180, 0, 26, 29, 46]
abbrev dktX3_block_8 : List UInt8 := dkwX3_block_8 ++ dktX3_block_9
def dkwX3_block_7 : List UInt8 := [46, 79, 132, 3, 1, 167, 255, 235, 3, 62, 29, 16, 64, 162, 0, 14, 42, 29, 182, 0, 66, 132, 3, 1]
abbrev dktX3_block_7 : List UInt8 := dkwX3_block_7 ++ dktX3_block_8
def dkwX3_block_6 : List UInt8 := [132, 3, 1, 167, 255, 180, 3, 62, 29, 16, 8, 162, 0, 21, 42, 180, 0, 26, 29, 42, 180, 0, 23, 29]
abbrev dktX3_block_6 : List UInt8 := dkwX3_block_6 ++ dktX3_block_7
def dkwX3_block_5 : List UInt8 := [29, 16, 13, 100, 46, 16, 7, 184, 0, 45, 130, 42, 180, 0, 19, 29, 16, 6, 100, 46, 130, 79]
abbrev dktX3_block_5 : List UInt8 := dkwX3_block_5 ++ dktX3_block_6
def dkwX3_block_4 : List UInt8 := [100, 46, 130, 42, 180, 0, 19, 29, 6, 100, 46, 16, 15, 184, 0, 45, 130, 184, 0, 63, 42, 180, 0, 19]
abbrev dktX3_block_4 : List UInt8 := dkwX3_block_4 ++ dktX3_block_5
def dkwX3_block_3 : List UInt8 := [162, 0, 76, 42, 180, 0, 19, 29, 42, 180, 0, 19, 29, 16, 16, 100, 46, 42, 180, 0, 19, 29, 16, 9]
abbrev dktX3_block_3 : List UInt8 := dkwX3_block_3 ++ dktX3_block_4
def dkwX3_block_2 : List UInt8 := [182, 0, 60, 128, 79, 132, 4, 1, 167, 255, 218, 132, 3, 1, 167, 255, 196, 16, 16, 62, 29, 16, 68]
abbrev dktX3_block_2 : List UInt8 := dkwX3_block_2 ++ dktX3_block_3
def dkwX3_block_1 : List UInt8 := [42, 180, 0, 19, 29, 42, 180, 0, 19, 29, 46, 16, 8, 120, 42, 27, 7, 29, 104, 96, 21, 4, 96, 28]
abbrev dktX3_block_1 : List UInt8 := dkwX3_block_1 ++ dktX3_block_2
def dkwX3_block_0 : List UInt8 := [3, 62, 29, 16, 16, 162, 0, 60, 42, 180, 0, 19, 29, 3, 79, 3, 54, 4, 21, 4, 7, 162, 0, 38]
abbrev dktX3_block_0 : List UInt8 := dkwX3_block_0 ++ dktX3_block_1
theorem dksX3_block_0 : cX3_block.data.toList.drop 0 = dktX3_block_0 := by decide +kernel
theorem dksX3_block_1 : cX3_block.data.toList.drop 24 = dktX3_block_1 := dk_seg dksX3_block_0 24 rfl rfl
theorem dksX3_block_2 : cX3_block.data.toList.drop 48 = dktX3_block_2 := dk_seg dksX3_block_1 24 rfl rfl
theorem dksX3_block_3 : cX3_block.data.toList.drop 71 = dktX3_block_3 := dk_seg dksX3_block_2 23 rfl rfl
theorem dksX3_block_4 : cX3_block.data.toList.drop 95 = dktX3_block_4 := dk_seg dksX3_block_3 24 rfl rfl
theorem dksX3_block_5 : cX3_block.data.toList.drop 119 = dktX3_block_5 := dk_seg dksX3_block_4 24 rfl rfl
theorem dksX3_block_6 : cX3_block.data.toList.drop 141 = dktX3_block_6 := dk_seg dksX3_block_5 22 rfl rfl
theorem dksX3_block_7 : cX3_block.data.toList.drop 165 = dktX3_block_7 := dk_seg dksX3_block_6 24 rfl rfl
theorem dksX3_block_8 : cX3_block.data.toList.drop 189 = dktX3_block_8 := dk_seg dksX3_block_7 24 rfl rfl
theorem dksX3_block_9 : cX3_block.data.toList.drop 213 = dktX3_block_9 := dk_seg dksX3_block_8 24 rfl rfl
theorem dX3_block_0 : decode cX3_block 0 = .ok (.iconst 0, 1) := dk_3 (dk_at dksX3_block_0 0 rfl rfl)
theorem dX3_block_1 : decode cX3_block 1 = .ok (.istore_n 3, 1) := dk_62 (dk_at dksX3_block_0 1 rfl rfl)
theorem dX3_block_2 : decode cX3_block 2 = .ok (.iload_n 3, 1) := dk_29 (dk_at dksX3_block_0 2 rfl rfl)
theorem dX3_block_3 : decode cX3_block 3 = .ok (.bipush 16, 2) := dk_16 16 (dk_at dksX3_block_0 3 rfl rfl)
theorem dX3_block_5 : decode cX3_block 5 = .ok (.if_icmp .ge 60, 3) := dk_162 0 60 (dk_at dksX3_block_0 5 rfl rfl)
theorem dX3_block_8 : decode cX3_block 8 = .ok (.aload_n 0, 1) := dk_42 (dk_at dksX3_block_0 8 rfl rfl)
theorem dX3_block_9 : decode cX3_block 9 = .ok (.getfield 19, 3) := dk_180 0 19 (dk_at dksX3_block_0 9 rfl rfl)
theorem dX3_block_12 : decode cX3_block 12 = .ok (.iload_n 3, 1) := dk_29 (dk_at dksX3_block_0 12 rfl rfl)
theorem dX3_block_13 : decode cX3_block 13 = .ok (.iconst 0, 1) := dk_3 (dk_at dksX3_block_0 13 rfl rfl)
theorem dX3_block_14 : decode cX3_block 14 = .ok (.iastore, 1) := dk_79 (dk_at dksX3_block_0 14 rfl rfl)
theorem dX3_block_15 : decode cX3_block 15 = .ok (.iconst 0, 1) := dk_3 (dk_at dksX3_block_0 15 rfl rfl)
theorem dX3_block_16 : decode cX3_block 16 = .ok (.istore 4, 2) := dk_54 4 (dk_at dksX3_block_0 16 rfl rfl)
theorem dX3_block_18 : decode cX3_block 18 = .ok (.iload 4, 2) := dk_21 4 (dk_at dksX3_block_0 18 rfl rfl)
theorem dX3_block_20 : decode cX3_block 20 = .ok (.iconst 4, 1) := dk_7 (dk_at dksX3_block_0 20 rfl rfl)
theorem dX3_block_21 : decode cX3_block 21 = .ok (.if_icmp .ge 38, 3) := dk_162 0 38 (dk_at dksX3_block_0 21 rfl rfl)
theorem dX3_block_24 : decode cX3_block 24 = .ok (.aload_n 0, 1) := dk_42 (dk_at dksX3_block_1 0 rfl rfl)
theorem dX3_block_25 : decode cX3_block 25 = .ok (.getfield 19, 3) := dk_180 0 19 (dk_at dksX3_block_1 1 rfl rfl)
theorem dX3_block_28 : decode cX3_block 28 = .ok (.iload_n 3, 1) := dk_29 (dk_at dksX3_block_1 4 rfl rfl)
theorem dX3_block_29 : decode cX3_block 29 = .ok (.aload_n 0, 1) := dk_42 (dk_at dksX3_block_1 5 rfl rfl)
theorem dX3_block_30 : decode cX3_block 30 = .ok (.getfield 19, 3) := dk_180 0 19 (dk_at dksX3_block_1 6 rfl rfl)
theorem dX3_block_33 : decode cX3_block 33 = .ok (.iload_n 3, 1) := dk_29 (dk_at dksX3_block_1 9 rfl rfl)
theorem dX3_block_34 : decode cX3_block 34 = .ok (.iaload, 1) := dk_46 (dk_at dksX3_block_1 10 rfl rfl)
theorem dX3_block_35 : decode cX3_block 35 = .ok (.bipush 8, 2) := dk_16 8 (dk_at dksX3_block_1 11 rfl rfl)
theorem dX3_block_37 : decode cX3_block 37 = .ok (.ishl, 1) := dk_120 (dk_at dksX3_block_1 13 rfl rfl)
theorem dX3_block_38 : decode cX3_block 38 = .ok (.aload_n 0, 1) := dk_42 (dk_at dksX3_block_1 14 rfl rfl)
theorem dX3_block_39 : decode cX3_block 39 = .ok (.iload_n 1, 1) := dk_27 (dk_at dksX3_block_1 15 rfl rfl)
theorem dX3_block_40 : decode cX3_block 40 = .ok (.iconst 4, 1) := dk_7 (dk_at dksX3_block_1 16 rfl rfl)
theorem dX3_block_41 : decode cX3_block 41 = .ok (.iload_n 3, 1) := dk_29 (dk_at dksX3_block_1 17 rfl rfl)
theorem dX3_block_42 : decode cX3_block 42 = .ok (.imul, 1) := dk_104 (dk_at dksX3_block_1 18 rfl rfl)
theorem dX3_block_43 : decode cX3_block 43 = .ok (.iadd, 1) := dk_96 (dk_at dksX3_block_1 19 rfl rfl)
theorem dX3_block_44 : decode cX3_block 44 = .ok (.iload 4, 2) := dk_21 4 (dk_at dksX3_block_1 20 rfl rfl)
theorem dX3_block_46 : decode cX3_block 46 = .ok (.iadd, 1) := dk_96 (dk_at dksX3_block_1 22 rfl rfl)
theorem dX3_block_47 : decode cX3_block 47 = .ok (.iload_n 2, 1) := dk_28 (dk_at dksX3_block_1 23 rfl rfl)
theorem dX3_block_48 : decode cX3_block 48 = .ok (.invokevirtual 60, 3) := dk_182 0 60 (dk_at dksX3_block_2 0 rfl rfl)
theorem dX3_block_51 : decode cX3_block 51 = .ok (.ior, 1) := dk_128 (dk_at dksX3_block_2 3 rfl rfl)
theorem dX3_block_52 : decode cX3_block 52 = .ok (.iastore, 1) := dk_79 (dk_at dksX3_block_2 4 rfl rfl)
theorem dX3_block_53 : decode cX3_block 53 = .ok (.iinc 4 1, 3) := dk_132 4 1 (dk_at dksX3_block_2 5 rfl rfl)
theorem dX3_block_56 : decode cX3_block 56 = .ok (.goto (-38), 3) := dk_167 255 218 (dk_at dksX3_block_2 8 rfl rfl)
theorem dX3_block_59 : decode cX3_block 59 = .ok (.iinc 3 1, 3) := dk_132 3 1 (dk_at dksX3_block_2 11 rfl rfl)
theorem dX3_block_62 : decode cX3_block 62 = .ok (.goto (-60), 3) := dk_167 255 196 (dk_at dksX3_block_2 14 rfl rfl)
theorem dX3_block_65 : decode cX3_block 65 = .ok (.bipush 16, 2) := dk_16 16 (dk_at dksX3_block_2 17 rfl rfl)
theorem dX3_block_67 : decode cX3_block 67 = .ok (.istore_n 3, 1) := dk_62 (dk_at dksX3_block_2 19 rfl rfl)
theorem dX3_block_68 : decode cX3_block 68 = .ok (.iload_n 3, 1) := dk_29 (dk_at dksX3_block_2 20 rfl rfl)
theorem dX3_block_69 : decode cX3_block 69 = .ok (.bipush 68, 2) := dk_16 68 (dk_at dksX3_block_2 21 rfl rfl)
theorem dX3_block_71 : decode cX3_block 71 = .ok (.if_icmp .ge 76, 3) := dk_162 0 76 (dk_at dksX3_block_3 0 rfl rfl)
theorem dX3_block_74 : decode cX3_block 74 = .ok (.aload_n 0, 1) := dk_42 (dk_at dksX3_block_3 3 rfl rfl)
theorem dX3_block_75 : decode cX3_block 75 = .ok (.getfield 19, 3) := dk_180 0 19 (dk_at dksX3_block_3 4 rfl rfl)
theorem dX3_block_78 : decode cX3_block 78 = .ok (.iload_n 3, 1) := dk_29 (dk_at dksX3_block_3 7 rfl rfl)
theorem dX3_block_79 : decode cX3_block 79 = .ok (.aload_n 0, 1) := dk_42 (dk_at dksX3_block_3 8 rfl rfl)
theorem dX3_block_80 : decode cX3_block 80 = .ok (.getfield 19, 3) := dk_180 0 19 (dk_at dksX3_block_3 9 rfl rfl)
theorem dX3_block_83 : decode cX3_block 83 = .ok (.iload_n 3, 1) := dk_29 (dk_at dksX3_block_3 12 rfl rfl)
theorem dX3_block_84 : decode cX3_block 84 = .ok (.bipush 16, 2) := dk_16 16 (dk_at dksX3_block_3 13 rfl rfl)
theorem dX3_block_86 : decode cX3_block 86 = .ok (.isub, 1) := dk_100 (dk_at dksX3_block_3 15 rfl rfl)
theorem dX3_block_87 : decode cX3_block 87 = .ok (.iaload, 1) := dk_46 (dk_at dksX3_block_3 16 rfl rfl)
theorem dX3_block_88 : decode cX3_block 88 = .ok (.aload_n 0, 1) := dk_42 (dk_at dksX3_block_3 17 rfl rfl)
theorem dX3_block_89 : decode cX3_block 89 = .ok (.getfield 19, 3) := dk_180 0 19 (dk_at dksX3_block_3 18 rfl rfl)
theorem dX3_block_92 : decode cX3_block 92 = .ok (.iload_n 3, 1) := dk_29 (dk_at dksX3_block_3 21 rfl rfl)
theorem dX3_block_93 : decode cX3_block 93 = .ok (.bipush 9, 2) := dk_16 9 (dk_at dksX3_block_3 22 rfl rfl)
theorem dX3_block_95 : decode cX3_block 95 = .ok (.isub, 1) := dk_100 (dk_at dksX3_block_4 0 rfl rfl)
theorem dX3_block_96 : decode cX3_block 96 = .ok (.iaload, 1) := dk_46 (dk_at dksX3_block_4 1 rfl rfl)
theorem dX3_block_97 : decode cX3_block 97 = .ok (.ixor, 1) := dk_130 (dk_at dksX3_block_4 2 rfl rfl)
theorem dX3_block_98 : decode cX3_block 98 = .ok (.aload_n 0, 1) := dk_42 (dk_at dksX3_block_4 3 rfl rfl)
theorem dX3_block_99 : decode cX3_block 99 = .ok (.getfield 19, 3) := dk_180 0 19 (dk_at dksX3_block_4 4 rfl rfl)
theorem dX3_block_102 : decode cX3_block 102 = .ok (.iload_n 3, 1) := dk_29 (dk_at dksX3_block_4 7 rfl rfl)
theorem dX3_block_103 : decode cX3_block 103 = .ok (.iconst 3, 1) := dk_6 (dk_at dksX3_block_4 8 rfl rfl)
theorem dX3_block_104 : decode cX3_block 104 = .ok (.isub, 1) := dk_100 (dk_at dksX3_block_4 9 rfl rfl)
theorem dX3_block_105 : decode cX3_block 105 = .ok (.iaload, 1) := dk_46 (dk_at dksX3_block_4 10 rfl rfl)
theorem dX3_block_106 : decode cX3_block 106 = .ok (.bipush 15, 2) := dk_16 15 (dk_at dksX3_block_4 11 rfl rfl)
theorem dX3_block_108 : decode cX3_block 108 = .ok (.invokestatic 45, 3) := dk_184 0 45 (dk_at dksX3_block_4 13 rfl rfl)
theorem dX3_block_111 : decode cX3_block 111 = .ok (.ixor, 1) := dk_130 (dk_at dksX3_block_4 16 rfl rfl)
theorem dX3_block_112 : decode cX3_block 112 = .ok (.invokestatic 63, 3) := dk_184 0 63 (dk_at dksX3_block_4 17 rfl rfl)
theorem dX3_block_115 : decode cX3_block 115 = .ok (.aload_n 0, 1) := dk_42 (dk_at dksX3_block_4 20 rfl rfl)
theorem dX3_block_116 : decode cX3_block 116 = .ok (.getfield 19, 3) := dk_180 0 19 (dk_at dksX3_block_4 21 rfl rfl)
theorem dX3_block_119 : decode cX3_block 119 = .ok (.iload_n 3, 1) := dk_29 (dk_at dksX3_block_5 0 rfl rfl)
theorem dX3_block_120 : decode cX3_block 120 = .ok (.bipush 13, 2) := dk_16 13 (dk_at dksX3_block_5 1 rfl rfl)
theorem dX3_block_122 : decode cX3_block 122 = .ok (.isub, 1) := dk_100 (dk_at dksX3_block_5 3 rfl rfl)
theorem dX3_block_123 : decode cX3_block 123 = .ok (.iaload, 1) := dk_46 (dk_at dksX3_block_5 4 rfl rfl)
theorem dX3_block_124 : decode cX3_block 124 = .ok (.bipush 7, 2) := dk_16 7 (dk_at dksX3_block_5 5 rfl rfl)
theorem dX3_block_126 : decode cX3_block 126 = .ok (.invokestatic 45, 3) := dk_184 0 45 (dk_at dksX3_block_5 7 rfl rfl)
theorem dX3_block_129 : decode cX3_block 129 = .ok (.ixor, 1) := dk_130 (dk_at dksX3_block_5 10 rfl rfl)
theorem dX3_block_130 : decode cX3_block 130 = .ok (.aload_n 0, 1) := dk_42 (dk_at dksX3_block_5 11 rfl rfl)
theorem dX3_block_131 : decode cX3_block 131 = .ok (.getfield 19, 3) := dk_180 0 19 (dk_at dksX3_block_5 12 rfl rfl)
theorem dX3_block_134 : decode cX3_block 134 = .ok (.iload_n 3, 1) := dk_29 (dk_at dksX3_block_5 15 rfl rfl)
theorem dX3_block_135 : decode cX3_block 135 = .ok (.bipush 6, 2) := dk_16 6 (dk_at dksX3_block_5 16 rfl rfl)
theorem dX3_block_137 : decode cX3_block 137 = .ok (.isub, 1) := dk_100 (dk_at dksX3_block_5 18 rfl rfl)
theorem dX3_block_138 : decode cX3_block 138 = .ok (.iaload, 1) := dk_46 (dk_at dksX3_block_5 19 rfl rfl)
theorem dX3_block_139 : decode cX3_block 139 = .ok (.ixor, 1) := dk_130 (dk_at dksX3_block_5 20 rfl rfl)
theorem dX3_block_140 : decode cX3_block 140 = .ok (.iastore, 1) := dk_79 (dk_at dksX3_block_5 21 rfl rfl)
theorem dX3_block_141 : decode cX3_block 141 = .ok (.iinc 3 1, 3) := dk_132 3 1 (dk_at dksX3_block_6 0 rfl rfl)
theorem dX3_block_144 : decode cX3_block 144 = .ok (.goto (-76), 3) := dk_167 255 180 (dk_at dksX3_block_6 3 rfl rfl)
theorem dX3_block_147 : decode cX3_block 147 = .ok (.iconst 0, 1) := dk_3 (dk_at dksX3_block_6 6 rfl rfl)
theorem dX3_block_148 : decode cX3_block 148 = .ok (.istore_n 3, 1) := dk_62 (dk_at dksX3_block_6 7 rfl rfl)
theorem dX3_block_149 : decode cX3_block 149 = .ok (.iload_n 3, 1) := dk_29 (dk_at dksX3_block_6 8 rfl rfl)
theorem dX3_block_150 : decode cX3_block 150 = .ok (.bipush 8, 2) := dk_16 8 (dk_at dksX3_block_6 9 rfl rfl)
theorem dX3_block_152 : decode cX3_block 152 = .ok (.if_icmp .ge 21, 3) := dk_162 0 21 (dk_at dksX3_block_6 11 rfl rfl)
theorem dX3_block_155 : decode cX3_block 155 = .ok (.aload_n 0, 1) := dk_42 (dk_at dksX3_block_6 14 rfl rfl)
theorem dX3_block_156 : decode cX3_block 156 = .ok (.getfield 26, 3) := dk_180 0 26 (dk_at dksX3_block_6 15 rfl rfl)
theorem dX3_block_159 : decode cX3_block 159 = .ok (.iload_n 3, 1) := dk_29 (dk_at dksX3_block_6 18 rfl rfl)
theorem dX3_block_160 : decode cX3_block 160 = .ok (.aload_n 0, 1) := dk_42 (dk_at dksX3_block_6 19 rfl rfl)
theorem dX3_block_161 : decode cX3_block 161 = .ok (.getfield 23, 3) := dk_180 0 23 (dk_at dksX3_block_6 20 rfl rfl)
theorem dX3_block_164 : decode cX3_block 164 = .ok (.iload_n 3, 1) := dk_29 (dk_at dksX3_block_6 23 rfl rfl)
theorem dX3_block_165 : decode cX3_block 165 = .ok (.iaload, 1) := dk_46 (dk_at dksX3_block_7 0 rfl rfl)
theorem dX3_block_166 : decode cX3_block 166 = .ok (.iastore, 1) := dk_79 (dk_at dksX3_block_7 1 rfl rfl)
theorem dX3_block_167 : decode cX3_block 167 = .ok (.iinc 3 1, 3) := dk_132 3 1 (dk_at dksX3_block_7 2 rfl rfl)
theorem dX3_block_170 : decode cX3_block 170 = .ok (.goto (-21), 3) := dk_167 255 235 (dk_at dksX3_block_7 5 rfl rfl)
theorem dX3_block_173 : decode cX3_block 173 = .ok (.iconst 0, 1) := dk_3 (dk_at dksX3_block_7 8 rfl rfl)
theorem dX3_block_174 : decode cX3_block 174 = .ok (.istore_n 3, 1) := dk_62 (dk_at dksX3_block_7 9 rfl rfl)
theorem dX3_block_175 : decode cX3_block 175 = .ok (.iload_n 3, 1) := dk_29 (dk_at dksX3_block_7 10 rfl rfl)
theorem dX3_block_176 : decode cX3_block 176 = .ok (.bipush 64, 2) := dk_16 64 (dk_at dksX3_block_7 11 rfl rfl)
theorem dX3_block_178 : decode cX3_block 178 = .ok (.if_icmp .ge 14, 3) := dk_162 0 14 (dk_at dksX3_block_7 13 rfl rfl)
theorem dX3_block_181 : decode cX3_block 181 = .ok (.aload_n 0, 1) := dk_42 (dk_at dksX3_block_7 16 rfl rfl)
theorem dX3_block_182 : decode cX3_block 182 = .ok (.iload_n 3, 1) := dk_29 (dk_at dksX3_block_7 17 rfl rfl)
theorem dX3_block_183 : decode cX3_block 183 = .ok (.invokevirtual 66, 3) := dk_182 0 66 (dk_at dksX3_block_7 18 rfl rfl)
theorem dX3_block_186 : decode cX3_block 186 = .ok (.iinc 3 1, 3) := dk_132 3 1 (dk_at dksX3_block_7 21 rfl rfl)
theorem dX3_block_189 : decode cX3_block 189 = .ok (.goto (-14), 3) := dk_167 255 242 (dk_at dksX3_block_8 0 rfl rfl)
theorem dX3_block_192 : decode cX3_block 192 = .ok (.iconst 0, 1) := dk_3 (dk_at dksX3_block_8 3 rfl rfl)
theorem dX3_block_193 : decode cX3_block 193 = .ok (.istore_n 3, 1) := dk_62 (dk_at dksX3_block_8 4 rfl rfl)
theorem dX3_block_194 : decode cX3_block 194 = .ok (.iload_n 3, 1) := dk_29 (dk_at dksX3_block_8 5 rfl rfl)
theorem dX3_block_195 : decode cX3_block 195 = .ok (.bipush 8, 2) := dk_16 8 (dk_at dksX3_block_8 6 rfl rfl)
theorem dX3_block_197 : decode cX3_block 197 = .ok (.if_icmp .ge 24, 3) := dk_162 0 24 (dk_at dksX3_block_8 8 rfl rfl)
theorem dX3_block_200 : decode cX3_block 200 = .ok (.aload_n 0, 1) := dk_42 (dk_at dksX3_block_8 11 rfl rfl)
theorem dX3_block_201 : decode cX3_block 201 = .ok (.getfield 23, 3) := dk_180 0 23 (dk_at dksX3_block_8 12 rfl rfl)
theorem dX3_block_204 : decode cX3_block 204 = .ok (.iload_n 3, 1) := dk_29 (dk_at dksX3_block_8 15 rfl rfl)
theorem dX3_block_205 : decode cX3_block 205 = .ok (.dup2, 1) := dk_92 (dk_at dksX3_block_8 16 rfl rfl)
theorem dX3_block_206 : decode cX3_block 206 = .ok (.iaload, 1) := dk_46 (dk_at dksX3_block_8 17 rfl rfl)
theorem dX3_block_207 : decode cX3_block 207 = .ok (.aload_n 0, 1) := dk_42 (dk_at dksX3_block_8 18 rfl rfl)
theorem dX3_block_208 : decode cX3_block 208 = .ok (.getfield 26, 3) := dk_180 0 26 (dk_at dksX3_block_8 19 rfl rfl)
theorem dX3_block_211 : decode cX3_block 211 = .ok (.iload_n 3, 1) := dk_29 (dk_at dksX3_block_8 22 rfl rfl)
theorem dX3_block_212 : decode cX3_block 212 = .ok (.iaload, 1) := dk_46 (dk_at dksX3_block_8 23 rfl rfl)
theorem dX3_block_213 : decode cX3_block 213 = .ok (.ixor, 1) := dk_130 (dk_at dksX3_block_9 0 rfl rfl)
theorem dX3_block_214 : decode cX3_block 214 = .ok (.iastore, 1) := dk_79 (dk_at dksX3_block_9 1 rfl rfl)
theorem dX3_block_215 : decode cX3_block 215 = .ok (.iinc 3 1, 3) := dk_132 3 1 (dk_at dksX3_block_9 2 rfl rfl)
theorem dX3_block_218 : decode cX3_block 218 = .ok (.goto (-24), 3) := dk_167 255 232 (dk_at dksX3_block_9 5 rfl rfl)
theorem dX3_block_221 : decode cX3_block 221 = .ok (.return_, 1) := dk_177 (dk_at dksX3_block_9 8 rfl rfl)
abbrev cX3_padded : ByteArray := prog_9_method_13_code
def yX3_padded : MethodName := ⟨RX3, "padded", "(II)I"⟩
def dkwX3_padded_2 : List UInt8 := [180, 0, 38, 133, 105, 16, 8, 29, 104, 125, 20, 0, 58, 127, 136, 167, 0, 4, 3, 172]
abbrev dktX3_padded_2 : List UInt8 := dkwX3_padded_2 ++ []
def dkwX3_padded_1 : List UInt8 := [160, 0, 7, 17, 0, 128, 172, 28, 4, 100, 27, 100, 62, 29, 16, 8, 162, 0, 25, 20, 0, 56, 42]
abbrev dktX3_padded_1 : List UInt8 := dkwX3_padded_1 ++ dktX3_padded_2
def dkwX3_padded_0 : List UInt8 := [27, 42, 180, 0, 38, 162, 0, 14, 42, 180, 0, 16, 27, 51, 17, 0, 255, 126, 172, 27, 42, 180, 0, 38]
abbrev dktX3_padded_0 : List UInt8 := dkwX3_padded_0 ++ dktX3_padded_1
theorem dksX3_padded_0 : cX3_padded.data.toList.drop 0 = dktX3_padded_0 := by decide +kernel
theorem dksX3_padded_1 : cX3_padded.data.toList.drop 24 = dktX3_padded_1 := dk_seg dksX3_padded_0 24 rfl rfl
theorem dksX3_padded_2 : cX3_padded.data.toList.drop 47 = dktX3_padded_2 := dk_seg dksX3_padded_1 23 rfl rfl
theorem dX3_padded_0 : decode cX3_padded 0 = .ok (.iload_n 1, 1) := dk_27 (dk_at dksX3_padded_0 0 rfl rfl)
theorem dX3_padded_1 : decode cX3_padded 1 = .ok (.aload_n 0, 1) := dk_42 (dk_at dksX3_padded_0 1 rfl rfl)
theorem dX3_padded_2 : decode cX3_padded 2 = .ok (.getfield 38, 3) := dk_180 0 38 (dk_at dksX3_padded_0 2 rfl rfl)
theorem dX3_padded_5 : decode cX3_padded 5 = .ok (.if_icmp .ge 14, 3) := dk_162 0 14 (dk_at dksX3_padded_0 5 rfl rfl)
theorem dX3_padded_8 : decode cX3_padded 8 = .ok (.aload_n 0, 1) := dk_42 (dk_at dksX3_padded_0 8 rfl rfl)
theorem dX3_padded_9 : decode cX3_padded 9 = .ok (.getfield 16, 3) := dk_180 0 16 (dk_at dksX3_padded_0 9 rfl rfl)
theorem dX3_padded_12 : decode cX3_padded 12 = .ok (.iload_n 1, 1) := dk_27 (dk_at dksX3_padded_0 12 rfl rfl)
theorem dX3_padded_13 : decode cX3_padded 13 = .ok (.baload, 1) := dk_51 (dk_at dksX3_padded_0 13 rfl rfl)
theorem dX3_padded_14 : decode cX3_padded 14 = .ok (.sipush 255, 3) := dk_17 0 255 (dk_at dksX3_padded_0 14 rfl rfl)
theorem dX3_padded_17 : decode cX3_padded 17 = .ok (.iand, 1) := dk_126 (dk_at dksX3_padded_0 17 rfl rfl)
theorem dX3_padded_18 : decode cX3_padded 18 = .ok (.ireturn, 1) := dk_172 (dk_at dksX3_padded_0 18 rfl rfl)
theorem dX3_padded_19 : decode cX3_padded 19 = .ok (.iload_n 1, 1) := dk_27 (dk_at dksX3_padded_0 19 rfl rfl)
theorem dX3_padded_20 : decode cX3_padded 20 = .ok (.aload_n 0, 1) := dk_42 (dk_at dksX3_padded_0 20 rfl rfl)
theorem dX3_padded_21 : decode cX3_padded 21 = .ok (.getfield 38, 3) := dk_180 0 38 (dk_at dksX3_padded_0 21 rfl rfl)
theorem dX3_padded_24 : decode cX3_padded 24 = .ok (.if_icmp .ne 7, 3) := dk_160 0 7 (dk_at dksX3_padded_1 0 rfl rfl)
theorem dX3_padded_27 : decode cX3_padded 27 = .ok (.sipush 128, 3) := dk_17 0 128 (dk_at dksX3_padded_1 3 rfl rfl)
theorem dX3_padded_30 : decode cX3_padded 30 = .ok (.ireturn, 1) := dk_172 (dk_at dksX3_padded_1 6 rfl rfl)
theorem dX3_padded_31 : decode cX3_padded 31 = .ok (.iload_n 2, 1) := dk_28 (dk_at dksX3_padded_1 7 rfl rfl)
theorem dX3_padded_32 : decode cX3_padded 32 = .ok (.iconst 1, 1) := dk_4 (dk_at dksX3_padded_1 8 rfl rfl)
theorem dX3_padded_33 : decode cX3_padded 33 = .ok (.isub, 1) := dk_100 (dk_at dksX3_padded_1 9 rfl rfl)
theorem dX3_padded_34 : decode cX3_padded 34 = .ok (.iload_n 1, 1) := dk_27 (dk_at dksX3_padded_1 10 rfl rfl)
theorem dX3_padded_35 : decode cX3_padded 35 = .ok (.isub, 1) := dk_100 (dk_at dksX3_padded_1 11 rfl rfl)
theorem dX3_padded_36 : decode cX3_padded 36 = .ok (.istore_n 3, 1) := dk_62 (dk_at dksX3_padded_1 12 rfl rfl)
theorem dX3_padded_37 : decode cX3_padded 37 = .ok (.iload_n 3, 1) := dk_29 (dk_at dksX3_padded_1 13 rfl rfl)
theorem dX3_padded_38 : decode cX3_padded 38 = .ok (.bipush 8, 2) := dk_16 8 (dk_at dksX3_padded_1 14 rfl rfl)
theorem dX3_padded_40 : decode cX3_padded 40 = .ok (.if_icmp .ge 25, 3) := dk_162 0 25 (dk_at dksX3_padded_1 16 rfl rfl)
theorem dX3_padded_43 : decode cX3_padded 43 = .ok (.ldc2_w 56, 3) := dk_20 0 56 (dk_at dksX3_padded_1 19 rfl rfl)
theorem dX3_padded_46 : decode cX3_padded 46 = .ok (.aload_n 0, 1) := dk_42 (dk_at dksX3_padded_1 22 rfl rfl)
theorem dX3_padded_47 : decode cX3_padded 47 = .ok (.getfield 38, 3) := dk_180 0 38 (dk_at dksX3_padded_2 0 rfl rfl)
theorem dX3_padded_50 : decode cX3_padded 50 = .ok (.i2l, 1) := dk_133 (dk_at dksX3_padded_2 3 rfl rfl)
theorem dX3_padded_51 : decode cX3_padded 51 = .ok (.lmul, 1) := dk_105 (dk_at dksX3_padded_2 4 rfl rfl)
theorem dX3_padded_52 : decode cX3_padded 52 = .ok (.bipush 8, 2) := dk_16 8 (dk_at dksX3_padded_2 5 rfl rfl)
theorem dX3_padded_54 : decode cX3_padded 54 = .ok (.iload_n 3, 1) := dk_29 (dk_at dksX3_padded_2 7 rfl rfl)
theorem dX3_padded_55 : decode cX3_padded 55 = .ok (.imul, 1) := dk_104 (dk_at dksX3_padded_2 8 rfl rfl)
theorem dX3_padded_56 : decode cX3_padded 56 = .ok (.lushr, 1) := dk_125 (dk_at dksX3_padded_2 9 rfl rfl)
theorem dX3_padded_57 : decode cX3_padded 57 = .ok (.ldc2_w 58, 3) := dk_20 0 58 (dk_at dksX3_padded_2 10 rfl rfl)
theorem dX3_padded_60 : decode cX3_padded 60 = .ok (.land, 1) := dk_127 (dk_at dksX3_padded_2 13 rfl rfl)
theorem dX3_padded_61 : decode cX3_padded 61 = .ok (.l2i, 1) := dk_136 (dk_at dksX3_padded_2 14 rfl rfl)
theorem dX3_padded_62 : decode cX3_padded 62 = .ok (.goto 4, 3) := dk_167 0 4 (dk_at dksX3_padded_2 15 rfl rfl)
theorem dX3_padded_65 : decode cX3_padded 65 = .ok (.iconst 0, 1) := dk_3 (dk_at dksX3_padded_2 18 rfl rfl)
theorem dX3_padded_66 : decode cX3_padded 66 = .ok (.ireturn, 1) := dk_172 (dk_at dksX3_padded_2 19 rfl rfl)
abbrev cX3_turned : ByteArray := prog_9_method_9_code
def yX3_turned : MethodName := ⟨RX3, "turned", "(II)I"⟩
def dkwX3_turned_0 : List UInt8 := [27, 16, 32, 112, 61, 28, 154, 0, 7, 26, 167, 0, 13, 26, 28, 120, 26, 16, 32, 28, 100, 124, 128, 172]
abbrev dktX3_turned_0 : List UInt8 := dkwX3_turned_0 ++ []
theorem dksX3_turned_0 : cX3_turned.data.toList.drop 0 = dktX3_turned_0 := by decide +kernel
theorem dX3_turned_0 : decode cX3_turned 0 = .ok (.iload_n 1, 1) := dk_27 (dk_at dksX3_turned_0 0 rfl rfl)
theorem dX3_turned_1 : decode cX3_turned 1 = .ok (.bipush 32, 2) := dk_16 32 (dk_at dksX3_turned_0 1 rfl rfl)
theorem dX3_turned_3 : decode cX3_turned 3 = .ok (.irem, 1) := dk_112 (dk_at dksX3_turned_0 3 rfl rfl)
theorem dX3_turned_4 : decode cX3_turned 4 = .ok (.istore_n 2, 1) := dk_61 (dk_at dksX3_turned_0 4 rfl rfl)
theorem dX3_turned_5 : decode cX3_turned 5 = .ok (.iload_n 2, 1) := dk_28 (dk_at dksX3_turned_0 5 rfl rfl)
theorem dX3_turned_6 : decode cX3_turned 6 = .ok (.ifCond .ne 7, 3) := dk_154 0 7 (dk_at dksX3_turned_0 6 rfl rfl)
theorem dX3_turned_9 : decode cX3_turned 9 = .ok (.iload_n 0, 1) := dk_26 (dk_at dksX3_turned_0 9 rfl rfl)
theorem dX3_turned_10 : decode cX3_turned 10 = .ok (.goto 13, 3) := dk_167 0 13 (dk_at dksX3_turned_0 10 rfl rfl)
theorem dX3_turned_13 : decode cX3_turned 13 = .ok (.iload_n 0, 1) := dk_26 (dk_at dksX3_turned_0 13 rfl rfl)
theorem dX3_turned_14 : decode cX3_turned 14 = .ok (.iload_n 2, 1) := dk_28 (dk_at dksX3_turned_0 14 rfl rfl)
theorem dX3_turned_15 : decode cX3_turned 15 = .ok (.ishl, 1) := dk_120 (dk_at dksX3_turned_0 15 rfl rfl)
theorem dX3_turned_16 : decode cX3_turned 16 = .ok (.iload_n 0, 1) := dk_26 (dk_at dksX3_turned_0 16 rfl rfl)
theorem dX3_turned_17 : decode cX3_turned 17 = .ok (.bipush 32, 2) := dk_16 32 (dk_at dksX3_turned_0 17 rfl rfl)
theorem dX3_turned_19 : decode cX3_turned 19 = .ok (.iload_n 2, 1) := dk_28 (dk_at dksX3_turned_0 19 rfl rfl)
theorem dX3_turned_20 : decode cX3_turned 20 = .ok (.isub, 1) := dk_100 (dk_at dksX3_turned_0 20 rfl rfl)
theorem dX3_turned_21 : decode cX3_turned 21 = .ok (.iushr, 1) := dk_124 (dk_at dksX3_turned_0 21 rfl rfl)
theorem dX3_turned_22 : decode cX3_turned 22 = .ok (.ior, 1) := dk_128 (dk_at dksX3_turned_0 22 rfl rfl)
theorem dX3_turned_23 : decode cX3_turned 23 = .ok (.ireturn, 1) := dk_172 (dk_at dksX3_turned_0 23 rfl rfl)
abbrev cX3_p1 : ByteArray := prog_9_method_11_code
def yX3_p1 : MethodName := ⟨RX3, "p1", "(I)I"⟩
def dkwX3_p1_0 : List UInt8 := [26, 26, 16, 15, 184, 0, 45, 130, 26, 16, 23, 184, 0, 45, 130, 172]
abbrev dktX3_p1_0 : List UInt8 := dkwX3_p1_0 ++ []
theorem dksX3_p1_0 : cX3_p1.data.toList.drop 0 = dktX3_p1_0 := by decide +kernel
theorem dX3_p1_0 : decode cX3_p1 0 = .ok (.iload_n 0, 1) := dk_26 (dk_at dksX3_p1_0 0 rfl rfl)
theorem dX3_p1_1 : decode cX3_p1 1 = .ok (.iload_n 0, 1) := dk_26 (dk_at dksX3_p1_0 1 rfl rfl)
theorem dX3_p1_2 : decode cX3_p1 2 = .ok (.bipush 15, 2) := dk_16 15 (dk_at dksX3_p1_0 2 rfl rfl)
theorem dX3_p1_4 : decode cX3_p1 4 = .ok (.invokestatic 45, 3) := dk_184 0 45 (dk_at dksX3_p1_0 4 rfl rfl)
theorem dX3_p1_7 : decode cX3_p1 7 = .ok (.ixor, 1) := dk_130 (dk_at dksX3_p1_0 7 rfl rfl)
theorem dX3_p1_8 : decode cX3_p1 8 = .ok (.iload_n 0, 1) := dk_26 (dk_at dksX3_p1_0 8 rfl rfl)
theorem dX3_p1_9 : decode cX3_p1 9 = .ok (.bipush 23, 2) := dk_16 23 (dk_at dksX3_p1_0 9 rfl rfl)
theorem dX3_p1_11 : decode cX3_p1 11 = .ok (.invokestatic 45, 3) := dk_184 0 45 (dk_at dksX3_p1_0 11 rfl rfl)
theorem dX3_p1_14 : decode cX3_p1 14 = .ok (.ixor, 1) := dk_130 (dk_at dksX3_p1_0 14 rfl rfl)
theorem dX3_p1_15 : decode cX3_p1 15 = .ok (.ireturn, 1) := dk_172 (dk_at dksX3_p1_0 15 rfl rfl)
abbrev cX3_round : ByteArray := prog_9_method_15_code
def yX3_round : MethodName := ⟨RX3, "round", "(I)V"⟩
def dkwX3_round_12 : List UInt8 := [21, 14, 184, 0, 72, 79, 177]
abbrev dktX3_round_12 : List UInt8 := dkwX3_round_12 ++ []
def dkwX3_round_11 : List UInt8 := [16, 6, 21, 6, 16, 19, 184, 0, 45, 79, 42, 180, 0, 26, 8, 21, 5, 79, 42, 180, 0, 26, 7]
abbrev dktX3_round_11 : List UInt8 := dkwX3_round_11 ++ dktX3_round_12
def dkwX3_round_10 : List UInt8 := [28, 79, 42, 180, 0, 26, 3, 21, 13, 79, 42, 180, 0, 26, 16, 7, 21, 7, 79, 42, 180, 0, 26]
abbrev dktX3_round_10 : List UInt8 := dkwX3_round_10 ++ dktX3_round_11
def dkwX3_round_9 : List UInt8 := [180, 0, 26, 6, 21, 4, 79, 42, 180, 0, 26, 5, 29, 16, 9, 184, 0, 45, 79, 42, 180, 0, 26, 4]
abbrev dktX3_round_9 : List UInt8 := dkwX3_round_9 ++ dktX3_round_10
def dkwX3_round_8 : List UInt8 := [21, 12, 42, 180, 0, 26, 16, 7, 46, 96, 21, 9, 96, 42, 180, 0, 19, 27, 46, 96, 54, 14, 42]
abbrev dktX3_round_8 : List UInt8 := dkwX3_round_8 ++ dktX3_round_9
def dkwX3_round_7 : List UInt8 := [6, 46, 96, 21, 10, 96, 42, 180, 0, 19, 27, 46, 42, 180, 0, 19, 27, 7, 96, 46, 130, 96, 54, 13]
abbrev dktX3_round_7 : List UInt8 := dkwX3_round_7 ++ dktX3_round_8
def dkwX3_round_6 : List UInt8 := [167, 0, 16, 21, 5, 21, 6, 126, 21, 5, 2, 130, 21, 7, 126, 128, 54, 12, 21, 11, 42, 180, 0, 26]
abbrev dktX3_round_6 : List UInt8 := dkwX3_round_6 ++ dktX3_round_7
def dkwX3_round_5 : List UInt8 := [126, 128, 29, 21, 4, 126, 128, 54, 11, 27, 16, 16, 162, 0, 14, 21, 5, 21, 6, 130, 21, 7, 130]
abbrev dktX3_round_5 : List UInt8 := dkwX3_round_5 ++ dktX3_round_6
def dkwX3_round_4 : List UInt8 := [130, 54, 10, 27, 16, 16, 162, 0, 12, 28, 29, 130, 21, 4, 130, 167, 0, 16, 28, 29, 126, 28, 21, 4]
abbrev dktX3_round_4 : List UInt8 := dkwX3_round_4 ++ dktX3_round_5
def dkwX3_round_3 : List UInt8 := [184, 0, 45, 21, 5, 96, 21, 8, 96, 16, 7, 184, 0, 45, 54, 9, 21, 9, 28, 16, 12, 184, 0, 45]
abbrev dktX3_round_3 : List UInt8 := dkwX3_round_3 ++ dktX3_round_4
def dkwX3_round_2 : List UInt8 := [27, 16, 16, 162, 0, 8, 18, 70, 167, 0, 5, 18, 71, 27, 184, 0, 45, 54, 8, 28, 16, 12]
abbrev dktX3_round_2 : List UInt8 := dkwX3_round_2 ++ dktX3_round_3
def dkwX3_round_1 : List UInt8 := [180, 0, 26, 7, 46, 54, 5, 42, 180, 0, 26, 8, 46, 54, 6, 42, 180, 0, 26, 16, 6, 46, 54, 7]
abbrev dktX3_round_1 : List UInt8 := dkwX3_round_1 ++ dktX3_round_2
def dkwX3_round_0 : List UInt8 := [42, 180, 0, 26, 3, 46, 61, 42, 180, 0, 26, 4, 46, 62, 42, 180, 0, 26, 5, 46, 54, 4, 42]
abbrev dktX3_round_0 : List UInt8 := dkwX3_round_0 ++ dktX3_round_1
theorem dksX3_round_0 : cX3_round.data.toList.drop 0 = dktX3_round_0 := by decide +kernel
theorem dksX3_round_1 : cX3_round.data.toList.drop 23 = dktX3_round_1 := dk_seg dksX3_round_0 23 rfl rfl
theorem dksX3_round_2 : cX3_round.data.toList.drop 47 = dktX3_round_2 := dk_seg dksX3_round_1 24 rfl rfl
theorem dksX3_round_3 : cX3_round.data.toList.drop 69 = dktX3_round_3 := dk_seg dksX3_round_2 22 rfl rfl
theorem dksX3_round_4 : cX3_round.data.toList.drop 93 = dktX3_round_4 := dk_seg dksX3_round_3 24 rfl rfl
theorem dksX3_round_5 : cX3_round.data.toList.drop 117 = dktX3_round_5 := dk_seg dksX3_round_4 24 rfl rfl
theorem dksX3_round_6 : cX3_round.data.toList.drop 140 = dktX3_round_6 := dk_seg dksX3_round_5 23 rfl rfl
theorem dksX3_round_7 : cX3_round.data.toList.drop 164 = dktX3_round_7 := dk_seg dksX3_round_6 24 rfl rfl
theorem dksX3_round_8 : cX3_round.data.toList.drop 188 = dktX3_round_8 := dk_seg dksX3_round_7 24 rfl rfl
theorem dksX3_round_9 : cX3_round.data.toList.drop 211 = dktX3_round_9 := dk_seg dksX3_round_8 23 rfl rfl
theorem dksX3_round_10 : cX3_round.data.toList.drop 235 = dktX3_round_10 := dk_seg dksX3_round_9 24 rfl rfl
theorem dksX3_round_11 : cX3_round.data.toList.drop 258 = dktX3_round_11 := dk_seg dksX3_round_10 23 rfl rfl
theorem dksX3_round_12 : cX3_round.data.toList.drop 281 = dktX3_round_12 := dk_seg dksX3_round_11 23 rfl rfl
theorem dX3_round_0 : decode cX3_round 0 = .ok (.aload_n 0, 1) := dk_42 (dk_at dksX3_round_0 0 rfl rfl)
theorem dX3_round_1 : decode cX3_round 1 = .ok (.getfield 26, 3) := dk_180 0 26 (dk_at dksX3_round_0 1 rfl rfl)
theorem dX3_round_4 : decode cX3_round 4 = .ok (.iconst 0, 1) := dk_3 (dk_at dksX3_round_0 4 rfl rfl)
theorem dX3_round_5 : decode cX3_round 5 = .ok (.iaload, 1) := dk_46 (dk_at dksX3_round_0 5 rfl rfl)
theorem dX3_round_6 : decode cX3_round 6 = .ok (.istore_n 2, 1) := dk_61 (dk_at dksX3_round_0 6 rfl rfl)
theorem dX3_round_7 : decode cX3_round 7 = .ok (.aload_n 0, 1) := dk_42 (dk_at dksX3_round_0 7 rfl rfl)
theorem dX3_round_8 : decode cX3_round 8 = .ok (.getfield 26, 3) := dk_180 0 26 (dk_at dksX3_round_0 8 rfl rfl)
theorem dX3_round_11 : decode cX3_round 11 = .ok (.iconst 1, 1) := dk_4 (dk_at dksX3_round_0 11 rfl rfl)
theorem dX3_round_12 : decode cX3_round 12 = .ok (.iaload, 1) := dk_46 (dk_at dksX3_round_0 12 rfl rfl)
theorem dX3_round_13 : decode cX3_round 13 = .ok (.istore_n 3, 1) := dk_62 (dk_at dksX3_round_0 13 rfl rfl)
theorem dX3_round_14 : decode cX3_round 14 = .ok (.aload_n 0, 1) := dk_42 (dk_at dksX3_round_0 14 rfl rfl)
theorem dX3_round_15 : decode cX3_round 15 = .ok (.getfield 26, 3) := dk_180 0 26 (dk_at dksX3_round_0 15 rfl rfl)
theorem dX3_round_18 : decode cX3_round 18 = .ok (.iconst 2, 1) := dk_5 (dk_at dksX3_round_0 18 rfl rfl)
theorem dX3_round_19 : decode cX3_round 19 = .ok (.iaload, 1) := dk_46 (dk_at dksX3_round_0 19 rfl rfl)
theorem dX3_round_20 : decode cX3_round 20 = .ok (.istore 4, 2) := dk_54 4 (dk_at dksX3_round_0 20 rfl rfl)
theorem dX3_round_22 : decode cX3_round 22 = .ok (.aload_n 0, 1) := dk_42 (dk_at dksX3_round_0 22 rfl rfl)
theorem dX3_round_23 : decode cX3_round 23 = .ok (.getfield 26, 3) := dk_180 0 26 (dk_at dksX3_round_1 0 rfl rfl)
theorem dX3_round_26 : decode cX3_round 26 = .ok (.iconst 4, 1) := dk_7 (dk_at dksX3_round_1 3 rfl rfl)
theorem dX3_round_27 : decode cX3_round 27 = .ok (.iaload, 1) := dk_46 (dk_at dksX3_round_1 4 rfl rfl)
theorem dX3_round_28 : decode cX3_round 28 = .ok (.istore 5, 2) := dk_54 5 (dk_at dksX3_round_1 5 rfl rfl)
theorem dX3_round_30 : decode cX3_round 30 = .ok (.aload_n 0, 1) := dk_42 (dk_at dksX3_round_1 7 rfl rfl)
theorem dX3_round_31 : decode cX3_round 31 = .ok (.getfield 26, 3) := dk_180 0 26 (dk_at dksX3_round_1 8 rfl rfl)
theorem dX3_round_34 : decode cX3_round 34 = .ok (.iconst 5, 1) := dk_8 (dk_at dksX3_round_1 11 rfl rfl)
theorem dX3_round_35 : decode cX3_round 35 = .ok (.iaload, 1) := dk_46 (dk_at dksX3_round_1 12 rfl rfl)
theorem dX3_round_36 : decode cX3_round 36 = .ok (.istore 6, 2) := dk_54 6 (dk_at dksX3_round_1 13 rfl rfl)
theorem dX3_round_38 : decode cX3_round 38 = .ok (.aload_n 0, 1) := dk_42 (dk_at dksX3_round_1 15 rfl rfl)
theorem dX3_round_39 : decode cX3_round 39 = .ok (.getfield 26, 3) := dk_180 0 26 (dk_at dksX3_round_1 16 rfl rfl)
theorem dX3_round_42 : decode cX3_round 42 = .ok (.bipush 6, 2) := dk_16 6 (dk_at dksX3_round_1 19 rfl rfl)
theorem dX3_round_44 : decode cX3_round 44 = .ok (.iaload, 1) := dk_46 (dk_at dksX3_round_1 21 rfl rfl)
theorem dX3_round_45 : decode cX3_round 45 = .ok (.istore 7, 2) := dk_54 7 (dk_at dksX3_round_1 22 rfl rfl)
theorem dX3_round_47 : decode cX3_round 47 = .ok (.iload_n 1, 1) := dk_27 (dk_at dksX3_round_2 0 rfl rfl)
theorem dX3_round_48 : decode cX3_round 48 = .ok (.bipush 16, 2) := dk_16 16 (dk_at dksX3_round_2 1 rfl rfl)
theorem dX3_round_50 : decode cX3_round 50 = .ok (.if_icmp .ge 8, 3) := dk_162 0 8 (dk_at dksX3_round_2 3 rfl rfl)
theorem dX3_round_53 : decode cX3_round 53 = .ok (.ldc 70, 2) := dk_18 70 (dk_at dksX3_round_2 6 rfl rfl)
theorem dX3_round_55 : decode cX3_round 55 = .ok (.goto 5, 3) := dk_167 0 5 (dk_at dksX3_round_2 8 rfl rfl)
theorem dX3_round_58 : decode cX3_round 58 = .ok (.ldc 71, 2) := dk_18 71 (dk_at dksX3_round_2 11 rfl rfl)
theorem dX3_round_60 : decode cX3_round 60 = .ok (.iload_n 1, 1) := dk_27 (dk_at dksX3_round_2 13 rfl rfl)
theorem dX3_round_61 : decode cX3_round 61 = .ok (.invokestatic 45, 3) := dk_184 0 45 (dk_at dksX3_round_2 14 rfl rfl)
theorem dX3_round_64 : decode cX3_round 64 = .ok (.istore 8, 2) := dk_54 8 (dk_at dksX3_round_2 17 rfl rfl)
theorem dX3_round_66 : decode cX3_round 66 = .ok (.iload_n 2, 1) := dk_28 (dk_at dksX3_round_2 19 rfl rfl)
theorem dX3_round_67 : decode cX3_round 67 = .ok (.bipush 12, 2) := dk_16 12 (dk_at dksX3_round_2 20 rfl rfl)
theorem dX3_round_69 : decode cX3_round 69 = .ok (.invokestatic 45, 3) := dk_184 0 45 (dk_at dksX3_round_3 0 rfl rfl)
theorem dX3_round_72 : decode cX3_round 72 = .ok (.iload 5, 2) := dk_21 5 (dk_at dksX3_round_3 3 rfl rfl)
theorem dX3_round_74 : decode cX3_round 74 = .ok (.iadd, 1) := dk_96 (dk_at dksX3_round_3 5 rfl rfl)
theorem dX3_round_75 : decode cX3_round 75 = .ok (.iload 8, 2) := dk_21 8 (dk_at dksX3_round_3 6 rfl rfl)
theorem dX3_round_77 : decode cX3_round 77 = .ok (.iadd, 1) := dk_96 (dk_at dksX3_round_3 8 rfl rfl)
theorem dX3_round_78 : decode cX3_round 78 = .ok (.bipush 7, 2) := dk_16 7 (dk_at dksX3_round_3 9 rfl rfl)
theorem dX3_round_80 : decode cX3_round 80 = .ok (.invokestatic 45, 3) := dk_184 0 45 (dk_at dksX3_round_3 11 rfl rfl)
theorem dX3_round_83 : decode cX3_round 83 = .ok (.istore 9, 2) := dk_54 9 (dk_at dksX3_round_3 14 rfl rfl)
theorem dX3_round_85 : decode cX3_round 85 = .ok (.iload 9, 2) := dk_21 9 (dk_at dksX3_round_3 16 rfl rfl)
theorem dX3_round_87 : decode cX3_round 87 = .ok (.iload_n 2, 1) := dk_28 (dk_at dksX3_round_3 18 rfl rfl)
theorem dX3_round_88 : decode cX3_round 88 = .ok (.bipush 12, 2) := dk_16 12 (dk_at dksX3_round_3 19 rfl rfl)
theorem dX3_round_90 : decode cX3_round 90 = .ok (.invokestatic 45, 3) := dk_184 0 45 (dk_at dksX3_round_3 21 rfl rfl)
theorem dX3_round_93 : decode cX3_round 93 = .ok (.ixor, 1) := dk_130 (dk_at dksX3_round_4 0 rfl rfl)
theorem dX3_round_94 : decode cX3_round 94 = .ok (.istore 10, 2) := dk_54 10 (dk_at dksX3_round_4 1 rfl rfl)
theorem dX3_round_96 : decode cX3_round 96 = .ok (.iload_n 1, 1) := dk_27 (dk_at dksX3_round_4 3 rfl rfl)
theorem dX3_round_97 : decode cX3_round 97 = .ok (.bipush 16, 2) := dk_16 16 (dk_at dksX3_round_4 4 rfl rfl)
theorem dX3_round_99 : decode cX3_round 99 = .ok (.if_icmp .ge 12, 3) := dk_162 0 12 (dk_at dksX3_round_4 6 rfl rfl)
theorem dX3_round_102 : decode cX3_round 102 = .ok (.iload_n 2, 1) := dk_28 (dk_at dksX3_round_4 9 rfl rfl)
theorem dX3_round_103 : decode cX3_round 103 = .ok (.iload_n 3, 1) := dk_29 (dk_at dksX3_round_4 10 rfl rfl)
theorem dX3_round_104 : decode cX3_round 104 = .ok (.ixor, 1) := dk_130 (dk_at dksX3_round_4 11 rfl rfl)
theorem dX3_round_105 : decode cX3_round 105 = .ok (.iload 4, 2) := dk_21 4 (dk_at dksX3_round_4 12 rfl rfl)
theorem dX3_round_107 : decode cX3_round 107 = .ok (.ixor, 1) := dk_130 (dk_at dksX3_round_4 14 rfl rfl)
theorem dX3_round_108 : decode cX3_round 108 = .ok (.goto 16, 3) := dk_167 0 16 (dk_at dksX3_round_4 15 rfl rfl)
theorem dX3_round_111 : decode cX3_round 111 = .ok (.iload_n 2, 1) := dk_28 (dk_at dksX3_round_4 18 rfl rfl)
theorem dX3_round_112 : decode cX3_round 112 = .ok (.iload_n 3, 1) := dk_29 (dk_at dksX3_round_4 19 rfl rfl)
theorem dX3_round_113 : decode cX3_round 113 = .ok (.iand, 1) := dk_126 (dk_at dksX3_round_4 20 rfl rfl)
theorem dX3_round_114 : decode cX3_round 114 = .ok (.iload_n 2, 1) := dk_28 (dk_at dksX3_round_4 21 rfl rfl)
theorem dX3_round_115 : decode cX3_round 115 = .ok (.iload 4, 2) := dk_21 4 (dk_at dksX3_round_4 22 rfl rfl)
theorem dX3_round_117 : decode cX3_round 117 = .ok (.iand, 1) := dk_126 (dk_at dksX3_round_5 0 rfl rfl)
theorem dX3_round_118 : decode cX3_round 118 = .ok (.ior, 1) := dk_128 (dk_at dksX3_round_5 1 rfl rfl)
theorem dX3_round_119 : decode cX3_round 119 = .ok (.iload_n 3, 1) := dk_29 (dk_at dksX3_round_5 2 rfl rfl)
theorem dX3_round_120 : decode cX3_round 120 = .ok (.iload 4, 2) := dk_21 4 (dk_at dksX3_round_5 3 rfl rfl)
theorem dX3_round_122 : decode cX3_round 122 = .ok (.iand, 1) := dk_126 (dk_at dksX3_round_5 5 rfl rfl)
theorem dX3_round_123 : decode cX3_round 123 = .ok (.ior, 1) := dk_128 (dk_at dksX3_round_5 6 rfl rfl)
theorem dX3_round_124 : decode cX3_round 124 = .ok (.istore 11, 2) := dk_54 11 (dk_at dksX3_round_5 7 rfl rfl)
theorem dX3_round_126 : decode cX3_round 126 = .ok (.iload_n 1, 1) := dk_27 (dk_at dksX3_round_5 9 rfl rfl)
theorem dX3_round_127 : decode cX3_round 127 = .ok (.bipush 16, 2) := dk_16 16 (dk_at dksX3_round_5 10 rfl rfl)
theorem dX3_round_129 : decode cX3_round 129 = .ok (.if_icmp .ge 14, 3) := dk_162 0 14 (dk_at dksX3_round_5 12 rfl rfl)
theorem dX3_round_132 : decode cX3_round 132 = .ok (.iload 5, 2) := dk_21 5 (dk_at dksX3_round_5 15 rfl rfl)
theorem dX3_round_134 : decode cX3_round 134 = .ok (.iload 6, 2) := dk_21 6 (dk_at dksX3_round_5 17 rfl rfl)
theorem dX3_round_136 : decode cX3_round 136 = .ok (.ixor, 1) := dk_130 (dk_at dksX3_round_5 19 rfl rfl)
theorem dX3_round_137 : decode cX3_round 137 = .ok (.iload 7, 2) := dk_21 7 (dk_at dksX3_round_5 20 rfl rfl)
theorem dX3_round_139 : decode cX3_round 139 = .ok (.ixor, 1) := dk_130 (dk_at dksX3_round_5 22 rfl rfl)
theorem dX3_round_140 : decode cX3_round 140 = .ok (.goto 16, 3) := dk_167 0 16 (dk_at dksX3_round_6 0 rfl rfl)
theorem dX3_round_143 : decode cX3_round 143 = .ok (.iload 5, 2) := dk_21 5 (dk_at dksX3_round_6 3 rfl rfl)
theorem dX3_round_145 : decode cX3_round 145 = .ok (.iload 6, 2) := dk_21 6 (dk_at dksX3_round_6 5 rfl rfl)
theorem dX3_round_147 : decode cX3_round 147 = .ok (.iand, 1) := dk_126 (dk_at dksX3_round_6 7 rfl rfl)
theorem dX3_round_148 : decode cX3_round 148 = .ok (.iload 5, 2) := dk_21 5 (dk_at dksX3_round_6 8 rfl rfl)
theorem dX3_round_150 : decode cX3_round 150 = .ok (.iconst (-1), 1) := dk_2 (dk_at dksX3_round_6 10 rfl rfl)
theorem dX3_round_151 : decode cX3_round 151 = .ok (.ixor, 1) := dk_130 (dk_at dksX3_round_6 11 rfl rfl)
theorem dX3_round_152 : decode cX3_round 152 = .ok (.iload 7, 2) := dk_21 7 (dk_at dksX3_round_6 12 rfl rfl)
theorem dX3_round_154 : decode cX3_round 154 = .ok (.iand, 1) := dk_126 (dk_at dksX3_round_6 14 rfl rfl)
theorem dX3_round_155 : decode cX3_round 155 = .ok (.ior, 1) := dk_128 (dk_at dksX3_round_6 15 rfl rfl)
theorem dX3_round_156 : decode cX3_round 156 = .ok (.istore 12, 2) := dk_54 12 (dk_at dksX3_round_6 16 rfl rfl)
theorem dX3_round_158 : decode cX3_round 158 = .ok (.iload 11, 2) := dk_21 11 (dk_at dksX3_round_6 18 rfl rfl)
theorem dX3_round_160 : decode cX3_round 160 = .ok (.aload_n 0, 1) := dk_42 (dk_at dksX3_round_6 20 rfl rfl)
theorem dX3_round_161 : decode cX3_round 161 = .ok (.getfield 26, 3) := dk_180 0 26 (dk_at dksX3_round_6 21 rfl rfl)
theorem dX3_round_164 : decode cX3_round 164 = .ok (.iconst 3, 1) := dk_6 (dk_at dksX3_round_7 0 rfl rfl)
theorem dX3_round_165 : decode cX3_round 165 = .ok (.iaload, 1) := dk_46 (dk_at dksX3_round_7 1 rfl rfl)
theorem dX3_round_166 : decode cX3_round 166 = .ok (.iadd, 1) := dk_96 (dk_at dksX3_round_7 2 rfl rfl)
theorem dX3_round_167 : decode cX3_round 167 = .ok (.iload 10, 2) := dk_21 10 (dk_at dksX3_round_7 3 rfl rfl)
theorem dX3_round_169 : decode cX3_round 169 = .ok (.iadd, 1) := dk_96 (dk_at dksX3_round_7 5 rfl rfl)
theorem dX3_round_170 : decode cX3_round 170 = .ok (.aload_n 0, 1) := dk_42 (dk_at dksX3_round_7 6 rfl rfl)
theorem dX3_round_171 : decode cX3_round 171 = .ok (.getfield 19, 3) := dk_180 0 19 (dk_at dksX3_round_7 7 rfl rfl)
theorem dX3_round_174 : decode cX3_round 174 = .ok (.iload_n 1, 1) := dk_27 (dk_at dksX3_round_7 10 rfl rfl)
theorem dX3_round_175 : decode cX3_round 175 = .ok (.iaload, 1) := dk_46 (dk_at dksX3_round_7 11 rfl rfl)
theorem dX3_round_176 : decode cX3_round 176 = .ok (.aload_n 0, 1) := dk_42 (dk_at dksX3_round_7 12 rfl rfl)
theorem dX3_round_177 : decode cX3_round 177 = .ok (.getfield 19, 3) := dk_180 0 19 (dk_at dksX3_round_7 13 rfl rfl)
theorem dX3_round_180 : decode cX3_round 180 = .ok (.iload_n 1, 1) := dk_27 (dk_at dksX3_round_7 16 rfl rfl)
theorem dX3_round_181 : decode cX3_round 181 = .ok (.iconst 4, 1) := dk_7 (dk_at dksX3_round_7 17 rfl rfl)
theorem dX3_round_182 : decode cX3_round 182 = .ok (.iadd, 1) := dk_96 (dk_at dksX3_round_7 18 rfl rfl)
theorem dX3_round_183 : decode cX3_round 183 = .ok (.iaload, 1) := dk_46 (dk_at dksX3_round_7 19 rfl rfl)
theorem dX3_round_184 : decode cX3_round 184 = .ok (.ixor, 1) := dk_130 (dk_at dksX3_round_7 20 rfl rfl)
theorem dX3_round_185 : decode cX3_round 185 = .ok (.iadd, 1) := dk_96 (dk_at dksX3_round_7 21 rfl rfl)
theorem dX3_round_186 : decode cX3_round 186 = .ok (.istore 13, 2) := dk_54 13 (dk_at dksX3_round_7 22 rfl rfl)
theorem dX3_round_188 : decode cX3_round 188 = .ok (.iload 12, 2) := dk_21 12 (dk_at dksX3_round_8 0 rfl rfl)
theorem dX3_round_190 : decode cX3_round 190 = .ok (.aload_n 0, 1) := dk_42 (dk_at dksX3_round_8 2 rfl rfl)
theorem dX3_round_191 : decode cX3_round 191 = .ok (.getfield 26, 3) := dk_180 0 26 (dk_at dksX3_round_8 3 rfl rfl)
theorem dX3_round_194 : decode cX3_round 194 = .ok (.bipush 7, 2) := dk_16 7 (dk_at dksX3_round_8 6 rfl rfl)
theorem dX3_round_196 : decode cX3_round 196 = .ok (.iaload, 1) := dk_46 (dk_at dksX3_round_8 8 rfl rfl)
theorem dX3_round_197 : decode cX3_round 197 = .ok (.iadd, 1) := dk_96 (dk_at dksX3_round_8 9 rfl rfl)
theorem dX3_round_198 : decode cX3_round 198 = .ok (.iload 9, 2) := dk_21 9 (dk_at dksX3_round_8 10 rfl rfl)
theorem dX3_round_200 : decode cX3_round 200 = .ok (.iadd, 1) := dk_96 (dk_at dksX3_round_8 12 rfl rfl)
theorem dX3_round_201 : decode cX3_round 201 = .ok (.aload_n 0, 1) := dk_42 (dk_at dksX3_round_8 13 rfl rfl)
theorem dX3_round_202 : decode cX3_round 202 = .ok (.getfield 19, 3) := dk_180 0 19 (dk_at dksX3_round_8 14 rfl rfl)
theorem dX3_round_205 : decode cX3_round 205 = .ok (.iload_n 1, 1) := dk_27 (dk_at dksX3_round_8 17 rfl rfl)
theorem dX3_round_206 : decode cX3_round 206 = .ok (.iaload, 1) := dk_46 (dk_at dksX3_round_8 18 rfl rfl)
theorem dX3_round_207 : decode cX3_round 207 = .ok (.iadd, 1) := dk_96 (dk_at dksX3_round_8 19 rfl rfl)
theorem dX3_round_208 : decode cX3_round 208 = .ok (.istore 14, 2) := dk_54 14 (dk_at dksX3_round_8 20 rfl rfl)
theorem dX3_round_210 : decode cX3_round 210 = .ok (.aload_n 0, 1) := dk_42 (dk_at dksX3_round_8 22 rfl rfl)
theorem dX3_round_211 : decode cX3_round 211 = .ok (.getfield 26, 3) := dk_180 0 26 (dk_at dksX3_round_9 0 rfl rfl)
theorem dX3_round_214 : decode cX3_round 214 = .ok (.iconst 3, 1) := dk_6 (dk_at dksX3_round_9 3 rfl rfl)
theorem dX3_round_215 : decode cX3_round 215 = .ok (.iload 4, 2) := dk_21 4 (dk_at dksX3_round_9 4 rfl rfl)
theorem dX3_round_217 : decode cX3_round 217 = .ok (.iastore, 1) := dk_79 (dk_at dksX3_round_9 6 rfl rfl)
theorem dX3_round_218 : decode cX3_round 218 = .ok (.aload_n 0, 1) := dk_42 (dk_at dksX3_round_9 7 rfl rfl)
theorem dX3_round_219 : decode cX3_round 219 = .ok (.getfield 26, 3) := dk_180 0 26 (dk_at dksX3_round_9 8 rfl rfl)
theorem dX3_round_222 : decode cX3_round 222 = .ok (.iconst 2, 1) := dk_5 (dk_at dksX3_round_9 11 rfl rfl)
theorem dX3_round_223 : decode cX3_round 223 = .ok (.iload_n 3, 1) := dk_29 (dk_at dksX3_round_9 12 rfl rfl)
theorem dX3_round_224 : decode cX3_round 224 = .ok (.bipush 9, 2) := dk_16 9 (dk_at dksX3_round_9 13 rfl rfl)
theorem dX3_round_226 : decode cX3_round 226 = .ok (.invokestatic 45, 3) := dk_184 0 45 (dk_at dksX3_round_9 15 rfl rfl)
theorem dX3_round_229 : decode cX3_round 229 = .ok (.iastore, 1) := dk_79 (dk_at dksX3_round_9 18 rfl rfl)
theorem dX3_round_230 : decode cX3_round 230 = .ok (.aload_n 0, 1) := dk_42 (dk_at dksX3_round_9 19 rfl rfl)
theorem dX3_round_231 : decode cX3_round 231 = .ok (.getfield 26, 3) := dk_180 0 26 (dk_at dksX3_round_9 20 rfl rfl)
theorem dX3_round_234 : decode cX3_round 234 = .ok (.iconst 1, 1) := dk_4 (dk_at dksX3_round_9 23 rfl rfl)
theorem dX3_round_235 : decode cX3_round 235 = .ok (.iload_n 2, 1) := dk_28 (dk_at dksX3_round_10 0 rfl rfl)
theorem dX3_round_236 : decode cX3_round 236 = .ok (.iastore, 1) := dk_79 (dk_at dksX3_round_10 1 rfl rfl)
theorem dX3_round_237 : decode cX3_round 237 = .ok (.aload_n 0, 1) := dk_42 (dk_at dksX3_round_10 2 rfl rfl)
theorem dX3_round_238 : decode cX3_round 238 = .ok (.getfield 26, 3) := dk_180 0 26 (dk_at dksX3_round_10 3 rfl rfl)
theorem dX3_round_241 : decode cX3_round 241 = .ok (.iconst 0, 1) := dk_3 (dk_at dksX3_round_10 6 rfl rfl)
theorem dX3_round_242 : decode cX3_round 242 = .ok (.iload 13, 2) := dk_21 13 (dk_at dksX3_round_10 7 rfl rfl)
theorem dX3_round_244 : decode cX3_round 244 = .ok (.iastore, 1) := dk_79 (dk_at dksX3_round_10 9 rfl rfl)
theorem dX3_round_245 : decode cX3_round 245 = .ok (.aload_n 0, 1) := dk_42 (dk_at dksX3_round_10 10 rfl rfl)
theorem dX3_round_246 : decode cX3_round 246 = .ok (.getfield 26, 3) := dk_180 0 26 (dk_at dksX3_round_10 11 rfl rfl)
theorem dX3_round_249 : decode cX3_round 249 = .ok (.bipush 7, 2) := dk_16 7 (dk_at dksX3_round_10 14 rfl rfl)
theorem dX3_round_251 : decode cX3_round 251 = .ok (.iload 7, 2) := dk_21 7 (dk_at dksX3_round_10 16 rfl rfl)
theorem dX3_round_253 : decode cX3_round 253 = .ok (.iastore, 1) := dk_79 (dk_at dksX3_round_10 18 rfl rfl)
theorem dX3_round_254 : decode cX3_round 254 = .ok (.aload_n 0, 1) := dk_42 (dk_at dksX3_round_10 19 rfl rfl)
theorem dX3_round_255 : decode cX3_round 255 = .ok (.getfield 26, 3) := dk_180 0 26 (dk_at dksX3_round_10 20 rfl rfl)
theorem dX3_round_258 : decode cX3_round 258 = .ok (.bipush 6, 2) := dk_16 6 (dk_at dksX3_round_11 0 rfl rfl)
theorem dX3_round_260 : decode cX3_round 260 = .ok (.iload 6, 2) := dk_21 6 (dk_at dksX3_round_11 2 rfl rfl)
theorem dX3_round_262 : decode cX3_round 262 = .ok (.bipush 19, 2) := dk_16 19 (dk_at dksX3_round_11 4 rfl rfl)
theorem dX3_round_264 : decode cX3_round 264 = .ok (.invokestatic 45, 3) := dk_184 0 45 (dk_at dksX3_round_11 6 rfl rfl)
theorem dX3_round_267 : decode cX3_round 267 = .ok (.iastore, 1) := dk_79 (dk_at dksX3_round_11 9 rfl rfl)
theorem dX3_round_268 : decode cX3_round 268 = .ok (.aload_n 0, 1) := dk_42 (dk_at dksX3_round_11 10 rfl rfl)
theorem dX3_round_269 : decode cX3_round 269 = .ok (.getfield 26, 3) := dk_180 0 26 (dk_at dksX3_round_11 11 rfl rfl)
theorem dX3_round_272 : decode cX3_round 272 = .ok (.iconst 5, 1) := dk_8 (dk_at dksX3_round_11 14 rfl rfl)
theorem dX3_round_273 : decode cX3_round 273 = .ok (.iload 5, 2) := dk_21 5 (dk_at dksX3_round_11 15 rfl rfl)
theorem dX3_round_275 : decode cX3_round 275 = .ok (.iastore, 1) := dk_79 (dk_at dksX3_round_11 17 rfl rfl)
theorem dX3_round_276 : decode cX3_round 276 = .ok (.aload_n 0, 1) := dk_42 (dk_at dksX3_round_11 18 rfl rfl)
theorem dX3_round_277 : decode cX3_round 277 = .ok (.getfield 26, 3) := dk_180 0 26 (dk_at dksX3_round_11 19 rfl rfl)
theorem dX3_round_280 : decode cX3_round 280 = .ok (.iconst 4, 1) := dk_7 (dk_at dksX3_round_11 22 rfl rfl)
theorem dX3_round_281 : decode cX3_round 281 = .ok (.iload 14, 2) := dk_21 14 (dk_at dksX3_round_12 0 rfl rfl)
theorem dX3_round_283 : decode cX3_round 283 = .ok (.invokestatic 72, 3) := dk_184 0 72 (dk_at dksX3_round_12 2 rfl rfl)
theorem dX3_round_286 : decode cX3_round 286 = .ok (.iastore, 1) := dk_79 (dk_at dksX3_round_12 5 rfl rfl)
theorem dX3_round_287 : decode cX3_round 287 = .ok (.return_, 1) := dk_177 (dk_at dksX3_round_12 6 rfl rfl)
abbrev cX3_p0 : ByteArray := prog_9_method_10_code
def yX3_p0 : MethodName := ⟨RX3, "p0", "(I)I"⟩
def dkwX3_p0_0 : List UInt8 := [26, 26, 16, 9, 184, 0, 45, 130, 26, 16, 17, 184, 0, 45, 130, 172]
abbrev dktX3_p0_0 : List UInt8 := dkwX3_p0_0 ++ []
theorem dksX3_p0_0 : cX3_p0.data.toList.drop 0 = dktX3_p0_0 := by decide +kernel
theorem dX3_p0_0 : decode cX3_p0 0 = .ok (.iload_n 0, 1) := dk_26 (dk_at dksX3_p0_0 0 rfl rfl)
theorem dX3_p0_1 : decode cX3_p0 1 = .ok (.iload_n 0, 1) := dk_26 (dk_at dksX3_p0_0 1 rfl rfl)
theorem dX3_p0_2 : decode cX3_p0 2 = .ok (.bipush 9, 2) := dk_16 9 (dk_at dksX3_p0_0 2 rfl rfl)
theorem dX3_p0_4 : decode cX3_p0 4 = .ok (.invokestatic 45, 3) := dk_184 0 45 (dk_at dksX3_p0_0 4 rfl rfl)
theorem dX3_p0_7 : decode cX3_p0 7 = .ok (.ixor, 1) := dk_130 (dk_at dksX3_p0_0 7 rfl rfl)
theorem dX3_p0_8 : decode cX3_p0 8 = .ok (.iload_n 0, 1) := dk_26 (dk_at dksX3_p0_0 8 rfl rfl)
theorem dX3_p0_9 : decode cX3_p0 9 = .ok (.bipush 17, 2) := dk_16 17 (dk_at dksX3_p0_0 9 rfl rfl)
theorem dX3_p0_11 : decode cX3_p0 11 = .ok (.invokestatic 45, 3) := dk_184 0 45 (dk_at dksX3_p0_0 11 rfl rfl)
theorem dX3_p0_14 : decode cX3_p0 14 = .ok (.ixor, 1) := dk_130 (dk_at dksX3_p0_0 14 rfl rfl)
theorem dX3_p0_15 : decode cX3_p0 15 = .ok (.ireturn, 1) := dk_172 (dk_at dksX3_p0_0 15 rfl rfl)
abbrev cX3_drop : ByteArray := prog_9_method_17_code
def yX3_drop : MethodName := ⟨RX3, "drop", "()V"⟩
def dkwX3_drop_0 : List UInt8 := [42, 3, 181, 0, 38, 177]
abbrev dktX3_drop_0 : List UInt8 := dkwX3_drop_0 ++ []
theorem dksX3_drop_0 : cX3_drop.data.toList.drop 0 = dktX3_drop_0 := by decide +kernel
theorem dX3_drop_0 : decode cX3_drop 0 = .ok (.aload_n 0, 1) := dk_42 (dk_at dksX3_drop_0 0 rfl rfl)
theorem dX3_drop_1 : decode cX3_drop 1 = .ok (.iconst 0, 1) := dk_3 (dk_at dksX3_drop_0 1 rfl rfl)
theorem dX3_drop_2 : decode cX3_drop 2 = .ok (.putfield 38, 3) := dk_181 0 38 (dk_at dksX3_drop_0 2 rfl rfl)
theorem dX3_drop_5 : decode cX3_drop 5 = .ok (.return_, 1) := dk_177 (dk_at dksX3_drop_0 5 rfl rfl)
abbrev cX3_out : ByteArray := prog_9_method_18_code
def yX3_out : MethodName := ⟨RX3, "out", "(I)I"⟩
def dkwX3_out_0 : List UInt8 := [42, 180, 0, 7, 27, 18, 37, 126, 16, 64, 112, 51, 17, 0, 255, 126, 172]
abbrev dktX3_out_0 : List UInt8 := dkwX3_out_0 ++ []
theorem dksX3_out_0 : cX3_out.data.toList.drop 0 = dktX3_out_0 := by decide +kernel
theorem dX3_out_0 : decode cX3_out 0 = .ok (.aload_n 0, 1) := dk_42 (dk_at dksX3_out_0 0 rfl rfl)
theorem dX3_out_1 : decode cX3_out 1 = .ok (.getfield 7, 3) := dk_180 0 7 (dk_at dksX3_out_0 1 rfl rfl)
theorem dX3_out_4 : decode cX3_out 4 = .ok (.iload_n 1, 1) := dk_27 (dk_at dksX3_out_0 4 rfl rfl)
theorem dX3_out_5 : decode cX3_out 5 = .ok (.ldc 37, 2) := dk_18 37 (dk_at dksX3_out_0 5 rfl rfl)
theorem dX3_out_7 : decode cX3_out 7 = .ok (.iand, 1) := dk_126 (dk_at dksX3_out_0 7 rfl rfl)
theorem dX3_out_8 : decode cX3_out 8 = .ok (.bipush 64, 2) := dk_16 64 (dk_at dksX3_out_0 8 rfl rfl)
theorem dX3_out_10 : decode cX3_out 10 = .ok (.irem, 1) := dk_112 (dk_at dksX3_out_0 10 rfl rfl)
theorem dX3_out_11 : decode cX3_out 11 = .ok (.baload, 1) := dk_51 (dk_at dksX3_out_0 11 rfl rfl)
theorem dX3_out_12 : decode cX3_out 12 = .ok (.sipush 255, 3) := dk_17 0 255 (dk_at dksX3_out_0 12 rfl rfl)
theorem dX3_out_15 : decode cX3_out 15 = .ok (.iand, 1) := dk_126 (dk_at dksX3_out_0 15 rfl rfl)
theorem dX3_out_16 : decode cX3_out 16 = .ok (.ireturn, 1) := dk_172 (dk_at dksX3_out_0 16 rfl rfl)
theorem q20 : (Jvm.Cond.initialized "SmDigestDeskModel") ∈ lw_all := lw_g (lw_at lw_m1 6 rfl) rfl
theorem q249 : (Jvm.Cond.instantiable "SmDigestDeskModel" (8 : Nat)) ∈ lw_all := lw_g (lw_at lw_m1 235 rfl) rfl
theorem q251 : (Jvm.Cond.instanceMethod ({ cls := "SmDigestDeskModel", name := "<init>", desc := "()V" } : Jvm.MethodName)) ∈ lw_all := lw_g (lw_at lw_m1 237 rfl) rfl
theorem q252 : (Jvm.Cond.code ({ cls := "SmDigestDeskModel", name := "<init>", desc := "()V" } : Jvm.MethodName) prog_9_method_1_code (1 : Nat) (Option.none : Option Jvm.ClassFile.FieldType)) ∈ lw_all := lw_g (lw_at lw_m1 238 rfl) rfl
theorem q253 : (Jvm.Cond.methodLink "SmDigestDeskModel" (1 : Nat) ({ cls := "java/lang/Object", name := "<init>", desc := "()V" } : Jvm.MethodName)) ∈ lw_all := lw_g (lw_at lw_m1 239 rfl) rfl
theorem q254 : (Jvm.Cond.fieldLink "SmDigestDeskModel" (7 : Nat) "SmDigestDeskModel" "out" "[B") ∈ lw_all := lw_g (lw_at lw_m2 0 rfl) rfl
theorem q255 : (Jvm.Cond.fieldLink "SmDigestDeskModel" (13 : Nat) "SmDigestDeskModel" "text" "[B") ∈ lw_all := lw_g (lw_at lw_m2 1 rfl) rfl
theorem q256 : (Jvm.Cond.fieldLink "SmDigestDeskModel" (29 : Nat) "SmDigestDeskModel" "size" "I") ∈ lw_all := lw_g (lw_at lw_m2 2 rfl) rfl
theorem q257 : (Jvm.Cond.fieldLink "SmDigestDeskModel" (16 : Nat) "SmDigestDeskModel" "message" "[B") ∈ lw_all := lw_g (lw_at lw_m2 3 rfl) rfl
theorem q258 : (Jvm.Cond.fieldLink "SmDigestDeskModel" (38 : Nat) "SmDigestDeskModel" "fed" "I") ∈ lw_all := lw_g (lw_at lw_m2 4 rfl) rfl
theorem q259 : (Jvm.Cond.fieldLink "SmDigestDeskModel" (19 : Nat) "SmDigestDeskModel" "w" "[I") ∈ lw_all := lw_g (lw_at lw_m2 5 rfl) rfl
theorem q260 : (Jvm.Cond.fieldLink "SmDigestDeskModel" (23 : Nat) "SmDigestDeskModel" "v" "[I") ∈ lw_all := lw_g (lw_at lw_m2 6 rfl) rfl
theorem q261 : (Jvm.Cond.fieldLink "SmDigestDeskModel" (26 : Nat) "SmDigestDeskModel" "\x72" "[I") ∈ lw_all := lw_g (lw_at lw_m2 7 rfl) rfl
theorem q262 : (Jvm.Cond.laysFinal "SmDigestDeskModel" "SmDigestDeskModel" "out" "[B") ∈ lw_all := lw_g (lw_at lw_m2 8 rfl) rfl
theorem q263 : (Jvm.Cond.soleField "SmDigestDeskModel" "out") ∈ lw_all := lw_g (lw_at lw_m2 9 rfl) rfl
theorem q264 : (Jvm.Cond.laysFinal "SmDigestDeskModel" "SmDigestDeskModel" "text" "[B") ∈ lw_all := lw_g (lw_at lw_m2 10 rfl) rfl
theorem q265 : (Jvm.Cond.soleField "SmDigestDeskModel" "text") ∈ lw_all := lw_g (lw_at lw_m2 11 rfl) rfl
theorem q266 : (Jvm.Cond.lays "SmDigestDeskModel" "SmDigestDeskModel" "size" "I") ∈ lw_all := lw_g (lw_at lw_m2 12 rfl) rfl
theorem q267 : (Jvm.Cond.soleField "SmDigestDeskModel" "size") ∈ lw_all := lw_g (lw_at lw_m2 13 rfl) rfl
theorem q268 : (Jvm.Cond.laysFinal "SmDigestDeskModel" "SmDigestDeskModel" "message" "[B") ∈ lw_all := lw_g (lw_at lw_m2 14 rfl) rfl
theorem q269 : (Jvm.Cond.soleField "SmDigestDeskModel" "message") ∈ lw_all := lw_g (lw_at lw_m2 15 rfl) rfl
theorem q270 : (Jvm.Cond.lays "SmDigestDeskModel" "SmDigestDeskModel" "fed" "I") ∈ lw_all := lw_g (lw_at lw_m2 16 rfl) rfl
theorem q271 : (Jvm.Cond.soleField "SmDigestDeskModel" "fed") ∈ lw_all := lw_g (lw_at lw_m2 17 rfl) rfl
theorem q272 : (Jvm.Cond.laysFinal "SmDigestDeskModel" "SmDigestDeskModel" "w" "[I") ∈ lw_all := lw_g (lw_at lw_m2 18 rfl) rfl
theorem q273 : (Jvm.Cond.soleField "SmDigestDeskModel" "w") ∈ lw_all := lw_g (lw_at lw_m2 19 rfl) rfl
theorem q274 : (Jvm.Cond.laysFinal "SmDigestDeskModel" "SmDigestDeskModel" "v" "[I") ∈ lw_all := lw_g (lw_at lw_m2 20 rfl) rfl
theorem q275 : (Jvm.Cond.soleField "SmDigestDeskModel" "v") ∈ lw_all := lw_g (lw_at lw_m2 21 rfl) rfl
theorem q276 : (Jvm.Cond.laysFinal "SmDigestDeskModel" "SmDigestDeskModel" "\x72" "[I") ∈ lw_all := lw_g (lw_at lw_m2 22 rfl) rfl
theorem q277 : (Jvm.Cond.soleField "SmDigestDeskModel" "\x72") ∈ lw_all := lw_g (lw_at lw_m2 23 rfl) rfl
theorem q278 : (Jvm.Cond.superclass "SmDigestDeskModel" "java/lang/Object") ∈ lw_all := lw_g (lw_at lw_m2 24 rfl) rfl
theorem q280 : (Jvm.Cond.instanceMethod ({ cls := "SmDigestDeskModel", name := "put", desc := "(IIII)Z" } : Jvm.MethodName)) ∈ lw_all := lw_g (lw_at lw_m2 26 rfl) rfl
theorem q281 : (Jvm.Cond.selects "SmDigestDeskModel" ({ cls := "SmDigestDeskModel", name := "put", desc := "(IIII)Z" } : Jvm.MethodName) ({ cls := "SmDigestDeskModel", name := "put", desc := "(IIII)Z" } : Jvm.MethodName)) ∈ lw_all := lw_g (lw_at lw_m2 27 rfl) rfl
theorem q282 : (Jvm.Cond.code ({ cls := "SmDigestDeskModel", name := "put", desc := "(IIII)Z" } : Jvm.MethodName) prog_9_method_2_code (7 : Nat) (Option.some Jvm.ClassFile.FieldType.boolean)) ∈ lw_all := lw_g (lw_at lw_m2 28 rfl) rfl
theorem q284 : (Jvm.Cond.instanceMethod ({ cls := "SmDigestDeskModel", name := "trim", desc := "(I)V" } : Jvm.MethodName)) ∈ lw_all := lw_g (lw_at lw_m2 30 rfl) rfl
theorem q285 : (Jvm.Cond.selects "SmDigestDeskModel" ({ cls := "SmDigestDeskModel", name := "trim", desc := "(I)V" } : Jvm.MethodName) ({ cls := "SmDigestDeskModel", name := "trim", desc := "(I)V" } : Jvm.MethodName)) ∈ lw_all := lw_g (lw_at lw_m2 31 rfl) rfl
theorem q286 : (Jvm.Cond.code ({ cls := "SmDigestDeskModel", name := "trim", desc := "(I)V" } : Jvm.MethodName) prog_9_method_3_code (2 : Nat) (Option.none : Option Jvm.ClassFile.FieldType)) ∈ lw_all := lw_g (lw_at lw_m2 32 rfl) rfl
theorem q287 : (Jvm.Cond.methodLink "SmDigestDeskModel" (33 : Nat) ({ cls := "SmDigestDeskModel", name := "from", desc := "(I)I" } : Jvm.MethodName)) ∈ lw_all := lw_g (lw_at lw_m2 33 rfl) rfl
theorem q288 : (Jvm.Cond.privateMethod ({ cls := "SmDigestDeskModel", name := "from", desc := "(I)I" } : Jvm.MethodName)) ∈ lw_tbl := lw_at lw_m2 34 rfl
theorem q289 : (Jvm.Cond.instanceMethod ({ cls := "SmDigestDeskModel", name := "from", desc := "(I)I" } : Jvm.MethodName)) ∈ lw_all := lw_g (lw_at lw_m2 35 rfl) rfl
theorem q290 : (Jvm.Cond.code ({ cls := "SmDigestDeskModel", name := "from", desc := "(I)I" } : Jvm.MethodName) prog_9_method_4_code (2 : Nat) (Option.some Jvm.ClassFile.FieldType.int)) ∈ lw_all := lw_g (lw_at lw_m2 36 rfl) rfl
theorem q291 : (Jvm.Cond.constant "SmDigestDeskModel" (37 : Nat) (2147483647 : Int32)) ∈ lw_all := lw_g (lw_at lw_m2 37 rfl) rfl
theorem q293 : (Jvm.Cond.instanceMethod ({ cls := "SmDigestDeskModel", name := "begin", desc := "(I)V" } : Jvm.MethodName)) ∈ lw_all := lw_g (lw_at lw_m2 39 rfl) rfl
theorem q294 : (Jvm.Cond.selects "SmDigestDeskModel" ({ cls := "SmDigestDeskModel", name := "begin", desc := "(I)V" } : Jvm.MethodName) ({ cls := "SmDigestDeskModel", name := "begin", desc := "(I)V" } : Jvm.MethodName)) ∈ lw_all := lw_g (lw_at lw_m2 40 rfl) rfl
theorem q295 : (Jvm.Cond.code ({ cls := "SmDigestDeskModel", name := "begin", desc := "(I)V" } : Jvm.MethodName) prog_9_method_6_code (2 : Nat) (Option.none : Option Jvm.ClassFile.FieldType)) ∈ lw_all := lw_g (lw_at lw_m2 41 rfl) rfl
theorem q297 : (Jvm.Cond.instanceMethod ({ cls := "SmDigestDeskModel", name := "feed", desc := "(II)Z" } : Jvm.MethodName)) ∈ lw_all := lw_g (lw_at lw_m2 43 rfl) rfl
theorem q298 : (Jvm.Cond.selects "SmDigestDeskModel" ({ cls := "SmDigestDeskModel", name := "feed", desc := "(II)Z" } : Jvm.MethodName) ({ cls := "SmDigestDeskModel", name := "feed", desc := "(II)Z" } : Jvm.MethodName)) ∈ lw_all := lw_g (lw_at lw_m2 44 rfl) rfl
theorem q299 : (Jvm.Cond.code ({ cls := "SmDigestDeskModel", name := "feed", desc := "(II)Z" } : Jvm.MethodName) prog_9_method_7_code (6 : Nat) (Option.some Jvm.ClassFile.FieldType.boolean)) ∈ lw_all := lw_g (lw_at lw_m2 45 rfl) rfl
theorem q300 : (Jvm.Cond.methodLink "SmDigestDeskModel" (41 : Nat) ({ cls := "SmDigestDeskModel", name := "count", desc := "(II)I" } : Jvm.MethodName)) ∈ lw_all := lw_g (lw_at lw_m2 46 rfl) rfl
theorem q301 : (Jvm.Cond.privateMethod ({ cls := "SmDigestDeskModel", name := "count", desc := "(II)I" } : Jvm.MethodName)) ∈ lw_tbl := lw_at lw_m2 47 rfl
theorem q302 : (Jvm.Cond.instanceMethod ({ cls := "SmDigestDeskModel", name := "count", desc := "(II)I" } : Jvm.MethodName)) ∈ lw_all := lw_g (lw_at lw_m2 48 rfl) rfl
theorem q303 : (Jvm.Cond.code ({ cls := "SmDigestDeskModel", name := "count", desc := "(II)I" } : Jvm.MethodName) prog_9_method_5_code (3 : Nat) (Option.some Jvm.ClassFile.FieldType.int)) ∈ lw_all := lw_g (lw_at lw_m2 49 rfl) rfl
theorem q305 : (Jvm.Cond.instanceMethod ({ cls := "SmDigestDeskModel", name := "one", desc := "(I)Z" } : Jvm.MethodName)) ∈ lw_all := lw_g (lw_at lw_m2 51 rfl) rfl
theorem q306 : (Jvm.Cond.selects "SmDigestDeskModel" ({ cls := "SmDigestDeskModel", name := "one", desc := "(I)Z" } : Jvm.MethodName) ({ cls := "SmDigestDeskModel", name := "one", desc := "(I)Z" } : Jvm.MethodName)) ∈ lw_all := lw_g (lw_at lw_m2 52 rfl) rfl
theorem q307 : (Jvm.Cond.code ({ cls := "SmDigestDeskModel", name := "one", desc := "(I)Z" } : Jvm.MethodName) prog_9_method_8_code (2 : Nat) (Option.some Jvm.ClassFile.FieldType.boolean)) ∈ lw_all := lw_g (lw_at lw_m2 53 rfl) rfl
theorem q309 : (Jvm.Cond.instanceMethod ({ cls := "SmDigestDeskModel", name := "close", desc := "()I" } : Jvm.MethodName)) ∈ lw_all := lw_g (lw_at lw_m2 55 rfl) rfl
theorem q310 : (Jvm.Cond.selects "SmDigestDeskModel" ({ cls := "SmDigestDeskModel", name := "close", desc := "()I" } : Jvm.MethodName) ({ cls := "SmDigestDeskModel", name := "close", desc := "()I" } : Jvm.MethodName)) ∈ lw_all := lw_g (lw_at lw_m2 56 rfl) rfl
theorem q311 : (Jvm.Cond.code ({ cls := "SmDigestDeskModel", name := "close", desc := "()I" } : Jvm.MethodName) prog_9_method_16_code (3 : Nat) (Option.some Jvm.ClassFile.FieldType.int)) ∈ lw_all := lw_g (lw_at lw_m2 57 rfl) rfl
theorem q312 : (Jvm.Cond.methodLink "SmDigestDeskModel" (75 : Nat) ({ cls := "SmDigestDeskModel", name := "first", desc := "(I)I" } : Jvm.MethodName)) ∈ lw_all := lw_g (lw_at lw_m2 58 rfl) rfl
theorem q313 : (Jvm.Cond.static ({ cls := "SmDigestDeskModel", name := "first", desc := "(I)I" } : Jvm.MethodName)) ∈ lw_all := lw_g (lw_at lw_m2 59 rfl) rfl
theorem q314 : (Jvm.Cond.code ({ cls := "SmDigestDeskModel", name := "first", desc := "(I)I" } : Jvm.MethodName) prog_9_method_12_code (1 : Nat) (Option.some Jvm.ClassFile.FieldType.int)) ∈ lw_all := lw_g (lw_at lw_m2 60 rfl) rfl
theorem q315 : (Jvm.Cond.constant "SmDigestDeskModel" (48 : Nat) (1937774191 : Int32)) ∈ lw_all := lw_g (lw_at lw_m2 61 rfl) rfl
theorem q316 : (Jvm.Cond.constant "SmDigestDeskModel" (49 : Nat) (1226093241 : Int32)) ∈ lw_all := lw_g (lw_at lw_m2 62 rfl) rfl
theorem q317 : (Jvm.Cond.constant "SmDigestDeskModel" (50 : Nat) (388252375 : Int32)) ∈ lw_all := lw_g (lw_at lw_m2 63 rfl) rfl
theorem q318 : (Jvm.Cond.constant "SmDigestDeskModel" (51 : Nat) (-628488704 : Int32)) ∈ lw_all := lw_g (lw_at lw_m2 64 rfl) rfl
theorem q319 : (Jvm.Cond.constant "SmDigestDeskModel" (52 : Nat) (-1452330820 : Int32)) ∈ lw_all := lw_g (lw_at lw_m2 65 rfl) rfl
theorem q320 : (Jvm.Cond.constant "SmDigestDeskModel" (53 : Nat) (372324522 : Int32)) ∈ lw_all := lw_g (lw_at lw_m2 66 rfl) rfl
theorem q321 : (Jvm.Cond.constant "SmDigestDeskModel" (54 : Nat) (-477237683 : Int32)) ∈ lw_all := lw_g (lw_at lw_m2 67 rfl) rfl
theorem q322 : (Jvm.Cond.constant "SmDigestDeskModel" (55 : Nat) (-1325724082 : Int32)) ∈ lw_all := lw_g (lw_at lw_m2 68 rfl) rfl
theorem q323 : (Jvm.Cond.methodLink "SmDigestDeskModel" (78 : Nat) ({ cls := "SmDigestDeskModel", name := "block", desc := "(II)V" } : Jvm.MethodName)) ∈ lw_all := lw_g (lw_at lw_m2 69 rfl) rfl
theorem q324 : (Jvm.Cond.privateMethod ({ cls := "SmDigestDeskModel", name := "block", desc := "(II)V" } : Jvm.MethodName)) ∈ lw_tbl := lw_at lw_m2 70 rfl
theorem q325 : (Jvm.Cond.instanceMethod ({ cls := "SmDigestDeskModel", name := "block", desc := "(II)V" } : Jvm.MethodName)) ∈ lw_all := lw_g (lw_at lw_m2 71 rfl) rfl
theorem q326 : (Jvm.Cond.code ({ cls := "SmDigestDeskModel", name := "block", desc := "(II)V" } : Jvm.MethodName) prog_9_method_14_code (5 : Nat) (Option.none : Option Jvm.ClassFile.FieldType)) ∈ lw_all := lw_g (lw_at lw_m2 72 rfl) rfl
theorem q327 : (Jvm.Cond.methodLink "SmDigestDeskModel" (60 : Nat) ({ cls := "SmDigestDeskModel", name := "padded", desc := "(II)I" } : Jvm.MethodName)) ∈ lw_all := lw_g (lw_at lw_m2 73 rfl) rfl
theorem q328 : (Jvm.Cond.privateMethod ({ cls := "SmDigestDeskModel", name := "padded", desc := "(II)I" } : Jvm.MethodName)) ∈ lw_tbl := lw_at lw_m2 74 rfl
theorem q329 : (Jvm.Cond.instanceMethod ({ cls := "SmDigestDeskModel", name := "padded", desc := "(II)I" } : Jvm.MethodName)) ∈ lw_all := lw_g (lw_at lw_m2 75 rfl) rfl
theorem q330 : (Jvm.Cond.code ({ cls := "SmDigestDeskModel", name := "padded", desc := "(II)I" } : Jvm.MethodName) prog_9_method_13_code (4 : Nat) (Option.some Jvm.ClassFile.FieldType.int)) ∈ lw_all := lw_g (lw_at lw_m2 76 rfl) rfl
theorem q331 : (Jvm.Cond.constantLong "SmDigestDeskModel" (56 : Nat) (8 : Int64)) ∈ lw_all := lw_g (lw_at lw_m2 77 rfl) rfl
theorem q332 : (Jvm.Cond.constantLong "SmDigestDeskModel" (58 : Nat) (255 : Int64)) ∈ lw_all := lw_g (lw_at lw_m2 78 rfl) rfl
theorem q333 : (Jvm.Cond.methodLink "SmDigestDeskModel" (45 : Nat) ({ cls := "SmDigestDeskModel", name := "turned", desc := "(II)I" } : Jvm.MethodName)) ∈ lw_all := lw_g (lw_at lw_m2 79 rfl) rfl
theorem q334 : (Jvm.Cond.static ({ cls := "SmDigestDeskModel", name := "turned", desc := "(II)I" } : Jvm.MethodName)) ∈ lw_all := lw_g (lw_at lw_m2 80 rfl) rfl
theorem q335 : (Jvm.Cond.code ({ cls := "SmDigestDeskModel", name := "turned", desc := "(II)I" } : Jvm.MethodName) prog_9_method_9_code (3 : Nat) (Option.some Jvm.ClassFile.FieldType.int)) ∈ lw_all := lw_g (lw_at lw_m2 81 rfl) rfl
theorem q336 : (Jvm.Cond.methodLink "SmDigestDeskModel" (63 : Nat) ({ cls := "SmDigestDeskModel", name := "p1", desc := "(I)I" } : Jvm.MethodName)) ∈ lw_all := lw_g (lw_at lw_m2 82 rfl) rfl
theorem q337 : (Jvm.Cond.static ({ cls := "SmDigestDeskModel", name := "p1", desc := "(I)I" } : Jvm.MethodName)) ∈ lw_all := lw_g (lw_at lw_m2 83 rfl) rfl
theorem q338 : (Jvm.Cond.code ({ cls := "SmDigestDeskModel", name := "p1", desc := "(I)I" } : Jvm.MethodName) prog_9_method_11_code (1 : Nat) (Option.some Jvm.ClassFile.FieldType.int)) ∈ lw_all := lw_g (lw_at lw_m2 84 rfl) rfl
theorem q339 : (Jvm.Cond.methodLink "SmDigestDeskModel" (66 : Nat) ({ cls := "SmDigestDeskModel", name := "round", desc := "(I)V" } : Jvm.MethodName)) ∈ lw_all := lw_g (lw_at lw_m2 85 rfl) rfl
theorem q340 : (Jvm.Cond.privateMethod ({ cls := "SmDigestDeskModel", name := "round", desc := "(I)V" } : Jvm.MethodName)) ∈ lw_tbl := lw_at lw_m2 86 rfl
theorem q341 : (Jvm.Cond.instanceMethod ({ cls := "SmDigestDeskModel", name := "round", desc := "(I)V" } : Jvm.MethodName)) ∈ lw_all := lw_g (lw_at lw_m2 87 rfl) rfl
theorem q342 : (Jvm.Cond.code ({ cls := "SmDigestDeskModel", name := "round", desc := "(I)V" } : Jvm.MethodName) prog_9_method_15_code (15 : Nat) (Option.none : Option Jvm.ClassFile.FieldType)) ∈ lw_all := lw_g (lw_at lw_m2 88 rfl) rfl
theorem q343 : (Jvm.Cond.constant "SmDigestDeskModel" (70 : Nat) (2043430169 : Int32)) ∈ lw_all := lw_g (lw_at lw_m2 89 rfl) rfl
theorem q344 : (Jvm.Cond.constant "SmDigestDeskModel" (71 : Nat) (2055708042 : Int32)) ∈ lw_all := lw_g (lw_at lw_m2 90 rfl) rfl
theorem q345 : (Jvm.Cond.methodLink "SmDigestDeskModel" (72 : Nat) ({ cls := "SmDigestDeskModel", name := "p0", desc := "(I)I" } : Jvm.MethodName)) ∈ lw_all := lw_g (lw_at lw_m2 91 rfl) rfl
theorem q346 : (Jvm.Cond.static ({ cls := "SmDigestDeskModel", name := "p0", desc := "(I)I" } : Jvm.MethodName)) ∈ lw_all := lw_g (lw_at lw_m2 92 rfl) rfl
theorem q347 : (Jvm.Cond.code ({ cls := "SmDigestDeskModel", name := "p0", desc := "(I)I" } : Jvm.MethodName) prog_9_method_10_code (1 : Nat) (Option.some Jvm.ClassFile.FieldType.int)) ∈ lw_all := lw_g (lw_at lw_m2 93 rfl) rfl
theorem q349 : (Jvm.Cond.instanceMethod ({ cls := "SmDigestDeskModel", name := "drop", desc := "()V" } : Jvm.MethodName)) ∈ lw_all := lw_g (lw_at lw_m2 95 rfl) rfl
theorem q350 : (Jvm.Cond.selects "SmDigestDeskModel" ({ cls := "SmDigestDeskModel", name := "drop", desc := "()V" } : Jvm.MethodName) ({ cls := "SmDigestDeskModel", name := "drop", desc := "()V" } : Jvm.MethodName)) ∈ lw_all := lw_g (lw_at lw_m2 96 rfl) rfl
theorem q351 : (Jvm.Cond.code ({ cls := "SmDigestDeskModel", name := "drop", desc := "()V" } : Jvm.MethodName) prog_9_method_17_code (1 : Nat) (Option.none : Option Jvm.ClassFile.FieldType)) ∈ lw_all := lw_g (lw_at lw_m2 97 rfl) rfl
theorem q353 : (Jvm.Cond.instanceMethod ({ cls := "SmDigestDeskModel", name := "out", desc := "(I)I" } : Jvm.MethodName)) ∈ lw_all := lw_g (lw_at lw_m2 99 rfl) rfl
theorem q354 : (Jvm.Cond.selects "SmDigestDeskModel" ({ cls := "SmDigestDeskModel", name := "out", desc := "(I)I" } : Jvm.MethodName) ({ cls := "SmDigestDeskModel", name := "out", desc := "(I)I" } : Jvm.MethodName)) ∈ lw_all := lw_g (lw_at lw_m2 100 rfl) rfl
theorem q355 : (Jvm.Cond.code ({ cls := "SmDigestDeskModel", name := "out", desc := "(I)I" } : Jvm.MethodName) prog_9_method_18_code (2 : Nat) (Option.some Jvm.ClassFile.FieldType.int)) ∈ lw_all := lw_g (lw_at lw_m2 101 rfl) rfl
theorem in_X3 : ∀ w ∈ wsX30, w ∈ lw_all := lw_in wsX30 [262, 264, 266, 268, 270, 272, 274, 276] (by decide +kernel) (by decide +kernel)
end
section
/-! the law's own entry -/
set_option maxRecDepth 100000
abbrev cL_law : ByteArray := code
def dkwL_law_11 : List UInt8 := [46, 182, 0, 50, 159, 0, 5, 3, 172, 132, 3, 6, 167, 254, 249, 4, 172]
abbrev dktL_law_11 : List UInt8 := dkwL_law_11 ++ []
def dkwL_law_10 : List UInt8 := [182, 0, 42, 44, 182, 0, 45, 167, 0, 26, 43, 42, 29, 4, 96, 46, 182, 0, 46, 44, 42, 29, 4, 96]
abbrev dktL_law_10 : List UInt8 := dkwL_law_10 ++ dktL_law_11
def dkwL_law_9 : List UInt8 := [182, 0, 36, 159, 0, 52, 3, 172, 43, 182, 0, 37, 44, 182, 0, 41, 159, 0, 39, 3, 172, 43]
abbrev dktL_law_9 : List UInt8 := dkwL_law_9 ++ dktL_law_10
def dkwL_law_8 : List UInt8 := [46, 182, 0, 31, 159, 0, 75, 3, 172, 43, 42, 29, 4, 96, 46, 182, 0, 32, 44, 42, 29, 4, 96, 46]
abbrev dktL_law_8 : List UInt8 := dkwL_law_8 ++ dktL_law_9
def dkwL_law_7 : List UInt8 := [43, 42, 29, 4, 96, 46, 42, 29, 5, 96, 46, 182, 0, 27, 44, 42, 29, 4, 96, 46, 42, 29, 5, 96]
abbrev dktL_law_7 : List UInt8 := dkwL_law_7 ++ dktL_law_8
def dkwL_law_6 : List UInt8 := [167, 0, 127, 43, 42, 29, 4, 96, 46, 182, 0, 23, 44, 42, 29, 4, 96, 46, 182, 0, 26, 167, 0, 106]
abbrev dktL_law_6 : List UInt8 := dkwL_law_6 ++ dktL_law_7
def dkwL_law_5 : List UInt8 := [159, 0, 150, 3, 172, 43, 42, 29, 4, 96, 46, 182, 0, 18, 44, 42, 29, 4, 96, 46, 182, 0, 22]
abbrev dktL_law_5 : List UInt8 := dkwL_law_5 ++ dktL_law_6
def dkwL_law_4 : List UInt8 := [44, 42, 29, 4, 96, 46, 42, 29, 5, 96, 46, 42, 29, 6, 96, 46, 42, 29, 7, 96, 46, 182, 0, 17]
abbrev dktL_law_4 : List UInt8 := dkwL_law_4 ++ dktL_law_5
def dkwL_law_3 : List UInt8 := [43, 42, 29, 4, 96, 46, 42, 29, 5, 96, 46, 42, 29, 6, 96, 46, 42, 29, 7, 96, 46, 182, 0, 13]
abbrev dktL_law_3 : List UInt8 := dkwL_law_3 ++ dktL_law_4
def dkwL_law_2 : List UInt8 := [170, 0, 0, 0, 0, 0, 245, 0, 0, 0, 0, 0, 0, 0, 7, 0, 0, 0, 47, 0, 0, 0, 100, 0, 0, 0, 121, 0, 0, 0, 142, 0, 0, 0, 175, 0, 0, 0, 198, 0, 0, 0, 211, 0, 0, 0, 222]
abbrev dktL_law_2 : List UInt8 := dkwL_law_2 ++ dktL_law_3
def dkwL_law_1 : List UInt8 := [163, 1, 4, 42, 29, 46, 16, 7, 126]
abbrev dktL_law_1 : List UInt8 := dkwL_law_1 ++ dktL_law_2
def dkwL_law_0 : List UInt8 := [187, 0, 7, 89, 183, 0, 9, 76, 187, 0, 10, 89, 183, 0, 12, 77, 3, 62, 29, 42, 190, 16, 6, 100]
abbrev dktL_law_0 : List UInt8 := dkwL_law_0 ++ dktL_law_1
theorem dksL_law_0 : cL_law.data.toList.drop 0 = dktL_law_0 := by decide +kernel
theorem dksL_law_1 : cL_law.data.toList.drop 24 = dktL_law_1 := dk_seg dksL_law_0 24 rfl rfl
theorem dksL_law_2 : cL_law.data.toList.drop 33 = dktL_law_2 := dk_seg dksL_law_1 9 rfl rfl
theorem dksL_law_3 : cL_law.data.toList.drop 80 = dktL_law_3 := dk_seg dksL_law_2 47 rfl rfl
theorem dksL_law_4 : cL_law.data.toList.drop 104 = dktL_law_4 := dk_seg dksL_law_3 24 rfl rfl
theorem dksL_law_5 : cL_law.data.toList.drop 128 = dktL_law_5 := dk_seg dksL_law_4 24 rfl rfl
theorem dksL_law_6 : cL_law.data.toList.drop 151 = dktL_law_6 := dk_seg dksL_law_5 23 rfl rfl
theorem dksL_law_7 : cL_law.data.toList.drop 175 = dktL_law_7 := dk_seg dksL_law_6 24 rfl rfl
theorem dksL_law_8 : cL_law.data.toList.drop 199 = dktL_law_8 := dk_seg dksL_law_7 24 rfl rfl
theorem dksL_law_9 : cL_law.data.toList.drop 223 = dktL_law_9 := dk_seg dksL_law_8 24 rfl rfl
theorem dksL_law_10 : cL_law.data.toList.drop 245 = dktL_law_10 := dk_seg dksL_law_9 22 rfl rfl
theorem dksL_law_11 : cL_law.data.toList.drop 269 = dktL_law_11 := dk_seg dksL_law_10 24 rfl rfl
theorem dL_law_0 : decode cL_law 0 = .ok (.new 7, 3) := dk_187 0 7 (dk_at dksL_law_0 0 rfl rfl)
theorem dL_law_3 : decode cL_law 3 = .ok (.dup, 1) := dk_89 (dk_at dksL_law_0 3 rfl rfl)
theorem dL_law_4 : decode cL_law 4 = .ok (.invokespecial 9, 3) := dk_183 0 9 (dk_at dksL_law_0 4 rfl rfl)
theorem dL_law_7 : decode cL_law 7 = .ok (.astore_n 1, 1) := dk_76 (dk_at dksL_law_0 7 rfl rfl)
theorem dL_law_8 : decode cL_law 8 = .ok (.new 10, 3) := dk_187 0 10 (dk_at dksL_law_0 8 rfl rfl)
theorem dL_law_11 : decode cL_law 11 = .ok (.dup, 1) := dk_89 (dk_at dksL_law_0 11 rfl rfl)
theorem dL_law_12 : decode cL_law 12 = .ok (.invokespecial 12, 3) := dk_183 0 12 (dk_at dksL_law_0 12 rfl rfl)
theorem dL_law_15 : decode cL_law 15 = .ok (.astore_n 2, 1) := dk_77 (dk_at dksL_law_0 15 rfl rfl)
theorem dL_law_16 : decode cL_law 16 = .ok (.iconst 0, 1) := dk_3 (dk_at dksL_law_0 16 rfl rfl)
theorem dL_law_17 : decode cL_law 17 = .ok (.istore_n 3, 1) := dk_62 (dk_at dksL_law_0 17 rfl rfl)
theorem dL_law_18 : decode cL_law 18 = .ok (.iload_n 3, 1) := dk_29 (dk_at dksL_law_0 18 rfl rfl)
theorem dL_law_19 : decode cL_law 19 = .ok (.aload_n 0, 1) := dk_42 (dk_at dksL_law_0 19 rfl rfl)
theorem dL_law_20 : decode cL_law 20 = .ok (.arraylength, 1) := dk_190 (dk_at dksL_law_0 20 rfl rfl)
theorem dL_law_21 : decode cL_law 21 = .ok (.bipush 6, 2) := dk_16 6 (dk_at dksL_law_0 21 rfl rfl)
theorem dL_law_23 : decode cL_law 23 = .ok (.isub, 1) := dk_100 (dk_at dksL_law_0 23 rfl rfl)
theorem dL_law_24 : decode cL_law 24 = .ok (.if_icmp .gt 260, 3) := dk_163 1 4 (dk_at dksL_law_1 0 rfl rfl)
theorem dL_law_27 : decode cL_law 27 = .ok (.aload_n 0, 1) := dk_42 (dk_at dksL_law_1 3 rfl rfl)
theorem dL_law_28 : decode cL_law 28 = .ok (.iload_n 3, 1) := dk_29 (dk_at dksL_law_1 4 rfl rfl)
theorem dL_law_29 : decode cL_law 29 = .ok (.iaload, 1) := dk_46 (dk_at dksL_law_1 5 rfl rfl)
theorem dL_law_30 : decode cL_law 30 = .ok (.bipush 7, 2) := dk_16 7 (dk_at dksL_law_1 6 rfl rfl)
theorem dL_law_32 : decode cL_law 32 = .ok (.iand, 1) := dk_126 (dk_at dksL_law_1 8 rfl rfl)
theorem dL_law_33 : decode cL_law 33 = .ok (.tableswitch 245 0 7 #[47, 100, 121, 142, 175, 198, 211, 222], 47) := by decide +kernel
theorem dL_law_80 : decode cL_law 80 = .ok (.aload_n 1, 1) := dk_43 (dk_at dksL_law_3 0 rfl rfl)
theorem dL_law_81 : decode cL_law 81 = .ok (.aload_n 0, 1) := dk_42 (dk_at dksL_law_3 1 rfl rfl)
theorem dL_law_82 : decode cL_law 82 = .ok (.iload_n 3, 1) := dk_29 (dk_at dksL_law_3 2 rfl rfl)
theorem dL_law_83 : decode cL_law 83 = .ok (.iconst 1, 1) := dk_4 (dk_at dksL_law_3 3 rfl rfl)
theorem dL_law_84 : decode cL_law 84 = .ok (.iadd, 1) := dk_96 (dk_at dksL_law_3 4 rfl rfl)
theorem dL_law_85 : decode cL_law 85 = .ok (.iaload, 1) := dk_46 (dk_at dksL_law_3 5 rfl rfl)
theorem dL_law_86 : decode cL_law 86 = .ok (.aload_n 0, 1) := dk_42 (dk_at dksL_law_3 6 rfl rfl)
theorem dL_law_87 : decode cL_law 87 = .ok (.iload_n 3, 1) := dk_29 (dk_at dksL_law_3 7 rfl rfl)
theorem dL_law_88 : decode cL_law 88 = .ok (.iconst 2, 1) := dk_5 (dk_at dksL_law_3 8 rfl rfl)
theorem dL_law_89 : decode cL_law 89 = .ok (.iadd, 1) := dk_96 (dk_at dksL_law_3 9 rfl rfl)
theorem dL_law_90 : decode cL_law 90 = .ok (.iaload, 1) := dk_46 (dk_at dksL_law_3 10 rfl rfl)
theorem dL_law_91 : decode cL_law 91 = .ok (.aload_n 0, 1) := dk_42 (dk_at dksL_law_3 11 rfl rfl)
theorem dL_law_92 : decode cL_law 92 = .ok (.iload_n 3, 1) := dk_29 (dk_at dksL_law_3 12 rfl rfl)
theorem dL_law_93 : decode cL_law 93 = .ok (.iconst 3, 1) := dk_6 (dk_at dksL_law_3 13 rfl rfl)
theorem dL_law_94 : decode cL_law 94 = .ok (.iadd, 1) := dk_96 (dk_at dksL_law_3 14 rfl rfl)
theorem dL_law_95 : decode cL_law 95 = .ok (.iaload, 1) := dk_46 (dk_at dksL_law_3 15 rfl rfl)
theorem dL_law_96 : decode cL_law 96 = .ok (.aload_n 0, 1) := dk_42 (dk_at dksL_law_3 16 rfl rfl)
theorem dL_law_97 : decode cL_law 97 = .ok (.iload_n 3, 1) := dk_29 (dk_at dksL_law_3 17 rfl rfl)
theorem dL_law_98 : decode cL_law 98 = .ok (.iconst 4, 1) := dk_7 (dk_at dksL_law_3 18 rfl rfl)
theorem dL_law_99 : decode cL_law 99 = .ok (.iadd, 1) := dk_96 (dk_at dksL_law_3 19 rfl rfl)
theorem dL_law_100 : decode cL_law 100 = .ok (.iaload, 1) := dk_46 (dk_at dksL_law_3 20 rfl rfl)
theorem dL_law_101 : decode cL_law 101 = .ok (.invokevirtual 13, 3) := dk_182 0 13 (dk_at dksL_law_3 21 rfl rfl)
theorem dL_law_104 : decode cL_law 104 = .ok (.aload_n 2, 1) := dk_44 (dk_at dksL_law_4 0 rfl rfl)
theorem dL_law_105 : decode cL_law 105 = .ok (.aload_n 0, 1) := dk_42 (dk_at dksL_law_4 1 rfl rfl)
theorem dL_law_106 : decode cL_law 106 = .ok (.iload_n 3, 1) := dk_29 (dk_at dksL_law_4 2 rfl rfl)
theorem dL_law_107 : decode cL_law 107 = .ok (.iconst 1, 1) := dk_4 (dk_at dksL_law_4 3 rfl rfl)
theorem dL_law_108 : decode cL_law 108 = .ok (.iadd, 1) := dk_96 (dk_at dksL_law_4 4 rfl rfl)
theorem dL_law_109 : decode cL_law 109 = .ok (.iaload, 1) := dk_46 (dk_at dksL_law_4 5 rfl rfl)
theorem dL_law_110 : decode cL_law 110 = .ok (.aload_n 0, 1) := dk_42 (dk_at dksL_law_4 6 rfl rfl)
theorem dL_law_111 : decode cL_law 111 = .ok (.iload_n 3, 1) := dk_29 (dk_at dksL_law_4 7 rfl rfl)
theorem dL_law_112 : decode cL_law 112 = .ok (.iconst 2, 1) := dk_5 (dk_at dksL_law_4 8 rfl rfl)
theorem dL_law_113 : decode cL_law 113 = .ok (.iadd, 1) := dk_96 (dk_at dksL_law_4 9 rfl rfl)
theorem dL_law_114 : decode cL_law 114 = .ok (.iaload, 1) := dk_46 (dk_at dksL_law_4 10 rfl rfl)
theorem dL_law_115 : decode cL_law 115 = .ok (.aload_n 0, 1) := dk_42 (dk_at dksL_law_4 11 rfl rfl)
theorem dL_law_116 : decode cL_law 116 = .ok (.iload_n 3, 1) := dk_29 (dk_at dksL_law_4 12 rfl rfl)
theorem dL_law_117 : decode cL_law 117 = .ok (.iconst 3, 1) := dk_6 (dk_at dksL_law_4 13 rfl rfl)
theorem dL_law_118 : decode cL_law 118 = .ok (.iadd, 1) := dk_96 (dk_at dksL_law_4 14 rfl rfl)
theorem dL_law_119 : decode cL_law 119 = .ok (.iaload, 1) := dk_46 (dk_at dksL_law_4 15 rfl rfl)
theorem dL_law_120 : decode cL_law 120 = .ok (.aload_n 0, 1) := dk_42 (dk_at dksL_law_4 16 rfl rfl)
theorem dL_law_121 : decode cL_law 121 = .ok (.iload_n 3, 1) := dk_29 (dk_at dksL_law_4 17 rfl rfl)
theorem dL_law_122 : decode cL_law 122 = .ok (.iconst 4, 1) := dk_7 (dk_at dksL_law_4 18 rfl rfl)
theorem dL_law_123 : decode cL_law 123 = .ok (.iadd, 1) := dk_96 (dk_at dksL_law_4 19 rfl rfl)
theorem dL_law_124 : decode cL_law 124 = .ok (.iaload, 1) := dk_46 (dk_at dksL_law_4 20 rfl rfl)
theorem dL_law_125 : decode cL_law 125 = .ok (.invokevirtual 17, 3) := dk_182 0 17 (dk_at dksL_law_4 21 rfl rfl)
theorem dL_law_128 : decode cL_law 128 = .ok (.if_icmp .eq 150, 3) := dk_159 0 150 (dk_at dksL_law_5 0 rfl rfl)
theorem dL_law_131 : decode cL_law 131 = .ok (.iconst 0, 1) := dk_3 (dk_at dksL_law_5 3 rfl rfl)
theorem dL_law_132 : decode cL_law 132 = .ok (.ireturn, 1) := dk_172 (dk_at dksL_law_5 4 rfl rfl)
theorem dL_law_133 : decode cL_law 133 = .ok (.aload_n 1, 1) := dk_43 (dk_at dksL_law_5 5 rfl rfl)
theorem dL_law_134 : decode cL_law 134 = .ok (.aload_n 0, 1) := dk_42 (dk_at dksL_law_5 6 rfl rfl)
theorem dL_law_135 : decode cL_law 135 = .ok (.iload_n 3, 1) := dk_29 (dk_at dksL_law_5 7 rfl rfl)
theorem dL_law_136 : decode cL_law 136 = .ok (.iconst 1, 1) := dk_4 (dk_at dksL_law_5 8 rfl rfl)
theorem dL_law_137 : decode cL_law 137 = .ok (.iadd, 1) := dk_96 (dk_at dksL_law_5 9 rfl rfl)
theorem dL_law_138 : decode cL_law 138 = .ok (.iaload, 1) := dk_46 (dk_at dksL_law_5 10 rfl rfl)
theorem dL_law_139 : decode cL_law 139 = .ok (.invokevirtual 18, 3) := dk_182 0 18 (dk_at dksL_law_5 11 rfl rfl)
theorem dL_law_142 : decode cL_law 142 = .ok (.aload_n 2, 1) := dk_44 (dk_at dksL_law_5 14 rfl rfl)
theorem dL_law_143 : decode cL_law 143 = .ok (.aload_n 0, 1) := dk_42 (dk_at dksL_law_5 15 rfl rfl)
theorem dL_law_144 : decode cL_law 144 = .ok (.iload_n 3, 1) := dk_29 (dk_at dksL_law_5 16 rfl rfl)
theorem dL_law_145 : decode cL_law 145 = .ok (.iconst 1, 1) := dk_4 (dk_at dksL_law_5 17 rfl rfl)
theorem dL_law_146 : decode cL_law 146 = .ok (.iadd, 1) := dk_96 (dk_at dksL_law_5 18 rfl rfl)
theorem dL_law_147 : decode cL_law 147 = .ok (.iaload, 1) := dk_46 (dk_at dksL_law_5 19 rfl rfl)
theorem dL_law_148 : decode cL_law 148 = .ok (.invokevirtual 22, 3) := dk_182 0 22 (dk_at dksL_law_5 20 rfl rfl)
theorem dL_law_151 : decode cL_law 151 = .ok (.goto 127, 3) := dk_167 0 127 (dk_at dksL_law_6 0 rfl rfl)
theorem dL_law_154 : decode cL_law 154 = .ok (.aload_n 1, 1) := dk_43 (dk_at dksL_law_6 3 rfl rfl)
theorem dL_law_155 : decode cL_law 155 = .ok (.aload_n 0, 1) := dk_42 (dk_at dksL_law_6 4 rfl rfl)
theorem dL_law_156 : decode cL_law 156 = .ok (.iload_n 3, 1) := dk_29 (dk_at dksL_law_6 5 rfl rfl)
theorem dL_law_157 : decode cL_law 157 = .ok (.iconst 1, 1) := dk_4 (dk_at dksL_law_6 6 rfl rfl)
theorem dL_law_158 : decode cL_law 158 = .ok (.iadd, 1) := dk_96 (dk_at dksL_law_6 7 rfl rfl)
theorem dL_law_159 : decode cL_law 159 = .ok (.iaload, 1) := dk_46 (dk_at dksL_law_6 8 rfl rfl)
theorem dL_law_160 : decode cL_law 160 = .ok (.invokevirtual 23, 3) := dk_182 0 23 (dk_at dksL_law_6 9 rfl rfl)
theorem dL_law_163 : decode cL_law 163 = .ok (.aload_n 2, 1) := dk_44 (dk_at dksL_law_6 12 rfl rfl)
theorem dL_law_164 : decode cL_law 164 = .ok (.aload_n 0, 1) := dk_42 (dk_at dksL_law_6 13 rfl rfl)
theorem dL_law_165 : decode cL_law 165 = .ok (.iload_n 3, 1) := dk_29 (dk_at dksL_law_6 14 rfl rfl)
theorem dL_law_166 : decode cL_law 166 = .ok (.iconst 1, 1) := dk_4 (dk_at dksL_law_6 15 rfl rfl)
theorem dL_law_167 : decode cL_law 167 = .ok (.iadd, 1) := dk_96 (dk_at dksL_law_6 16 rfl rfl)
theorem dL_law_168 : decode cL_law 168 = .ok (.iaload, 1) := dk_46 (dk_at dksL_law_6 17 rfl rfl)
theorem dL_law_169 : decode cL_law 169 = .ok (.invokevirtual 26, 3) := dk_182 0 26 (dk_at dksL_law_6 18 rfl rfl)
theorem dL_law_172 : decode cL_law 172 = .ok (.goto 106, 3) := dk_167 0 106 (dk_at dksL_law_6 21 rfl rfl)
theorem dL_law_175 : decode cL_law 175 = .ok (.aload_n 1, 1) := dk_43 (dk_at dksL_law_7 0 rfl rfl)
theorem dL_law_176 : decode cL_law 176 = .ok (.aload_n 0, 1) := dk_42 (dk_at dksL_law_7 1 rfl rfl)
theorem dL_law_177 : decode cL_law 177 = .ok (.iload_n 3, 1) := dk_29 (dk_at dksL_law_7 2 rfl rfl)
theorem dL_law_178 : decode cL_law 178 = .ok (.iconst 1, 1) := dk_4 (dk_at dksL_law_7 3 rfl rfl)
theorem dL_law_179 : decode cL_law 179 = .ok (.iadd, 1) := dk_96 (dk_at dksL_law_7 4 rfl rfl)
theorem dL_law_180 : decode cL_law 180 = .ok (.iaload, 1) := dk_46 (dk_at dksL_law_7 5 rfl rfl)
theorem dL_law_181 : decode cL_law 181 = .ok (.aload_n 0, 1) := dk_42 (dk_at dksL_law_7 6 rfl rfl)
theorem dL_law_182 : decode cL_law 182 = .ok (.iload_n 3, 1) := dk_29 (dk_at dksL_law_7 7 rfl rfl)
theorem dL_law_183 : decode cL_law 183 = .ok (.iconst 2, 1) := dk_5 (dk_at dksL_law_7 8 rfl rfl)
theorem dL_law_184 : decode cL_law 184 = .ok (.iadd, 1) := dk_96 (dk_at dksL_law_7 9 rfl rfl)
theorem dL_law_185 : decode cL_law 185 = .ok (.iaload, 1) := dk_46 (dk_at dksL_law_7 10 rfl rfl)
theorem dL_law_186 : decode cL_law 186 = .ok (.invokevirtual 27, 3) := dk_182 0 27 (dk_at dksL_law_7 11 rfl rfl)
theorem dL_law_189 : decode cL_law 189 = .ok (.aload_n 2, 1) := dk_44 (dk_at dksL_law_7 14 rfl rfl)
theorem dL_law_190 : decode cL_law 190 = .ok (.aload_n 0, 1) := dk_42 (dk_at dksL_law_7 15 rfl rfl)
theorem dL_law_191 : decode cL_law 191 = .ok (.iload_n 3, 1) := dk_29 (dk_at dksL_law_7 16 rfl rfl)
theorem dL_law_192 : decode cL_law 192 = .ok (.iconst 1, 1) := dk_4 (dk_at dksL_law_7 17 rfl rfl)
theorem dL_law_193 : decode cL_law 193 = .ok (.iadd, 1) := dk_96 (dk_at dksL_law_7 18 rfl rfl)
theorem dL_law_194 : decode cL_law 194 = .ok (.iaload, 1) := dk_46 (dk_at dksL_law_7 19 rfl rfl)
theorem dL_law_195 : decode cL_law 195 = .ok (.aload_n 0, 1) := dk_42 (dk_at dksL_law_7 20 rfl rfl)
theorem dL_law_196 : decode cL_law 196 = .ok (.iload_n 3, 1) := dk_29 (dk_at dksL_law_7 21 rfl rfl)
theorem dL_law_197 : decode cL_law 197 = .ok (.iconst 2, 1) := dk_5 (dk_at dksL_law_7 22 rfl rfl)
theorem dL_law_198 : decode cL_law 198 = .ok (.iadd, 1) := dk_96 (dk_at dksL_law_7 23 rfl rfl)
theorem dL_law_199 : decode cL_law 199 = .ok (.iaload, 1) := dk_46 (dk_at dksL_law_8 0 rfl rfl)
theorem dL_law_200 : decode cL_law 200 = .ok (.invokevirtual 31, 3) := dk_182 0 31 (dk_at dksL_law_8 1 rfl rfl)
theorem dL_law_203 : decode cL_law 203 = .ok (.if_icmp .eq 75, 3) := dk_159 0 75 (dk_at dksL_law_8 4 rfl rfl)
theorem dL_law_206 : decode cL_law 206 = .ok (.iconst 0, 1) := dk_3 (dk_at dksL_law_8 7 rfl rfl)
theorem dL_law_207 : decode cL_law 207 = .ok (.ireturn, 1) := dk_172 (dk_at dksL_law_8 8 rfl rfl)
theorem dL_law_208 : decode cL_law 208 = .ok (.aload_n 1, 1) := dk_43 (dk_at dksL_law_8 9 rfl rfl)
theorem dL_law_209 : decode cL_law 209 = .ok (.aload_n 0, 1) := dk_42 (dk_at dksL_law_8 10 rfl rfl)
theorem dL_law_210 : decode cL_law 210 = .ok (.iload_n 3, 1) := dk_29 (dk_at dksL_law_8 11 rfl rfl)
theorem dL_law_211 : decode cL_law 211 = .ok (.iconst 1, 1) := dk_4 (dk_at dksL_law_8 12 rfl rfl)
theorem dL_law_212 : decode cL_law 212 = .ok (.iadd, 1) := dk_96 (dk_at dksL_law_8 13 rfl rfl)
theorem dL_law_213 : decode cL_law 213 = .ok (.iaload, 1) := dk_46 (dk_at dksL_law_8 14 rfl rfl)
theorem dL_law_214 : decode cL_law 214 = .ok (.invokevirtual 32, 3) := dk_182 0 32 (dk_at dksL_law_8 15 rfl rfl)
theorem dL_law_217 : decode cL_law 217 = .ok (.aload_n 2, 1) := dk_44 (dk_at dksL_law_8 18 rfl rfl)
theorem dL_law_218 : decode cL_law 218 = .ok (.aload_n 0, 1) := dk_42 (dk_at dksL_law_8 19 rfl rfl)
theorem dL_law_219 : decode cL_law 219 = .ok (.iload_n 3, 1) := dk_29 (dk_at dksL_law_8 20 rfl rfl)
theorem dL_law_220 : decode cL_law 220 = .ok (.iconst 1, 1) := dk_4 (dk_at dksL_law_8 21 rfl rfl)
theorem dL_law_221 : decode cL_law 221 = .ok (.iadd, 1) := dk_96 (dk_at dksL_law_8 22 rfl rfl)
theorem dL_law_222 : decode cL_law 222 = .ok (.iaload, 1) := dk_46 (dk_at dksL_law_8 23 rfl rfl)
theorem dL_law_223 : decode cL_law 223 = .ok (.invokevirtual 36, 3) := dk_182 0 36 (dk_at dksL_law_9 0 rfl rfl)
theorem dL_law_226 : decode cL_law 226 = .ok (.if_icmp .eq 52, 3) := dk_159 0 52 (dk_at dksL_law_9 3 rfl rfl)
theorem dL_law_229 : decode cL_law 229 = .ok (.iconst 0, 1) := dk_3 (dk_at dksL_law_9 6 rfl rfl)
theorem dL_law_230 : decode cL_law 230 = .ok (.ireturn, 1) := dk_172 (dk_at dksL_law_9 7 rfl rfl)
theorem dL_law_231 : decode cL_law 231 = .ok (.aload_n 1, 1) := dk_43 (dk_at dksL_law_9 8 rfl rfl)
theorem dL_law_232 : decode cL_law 232 = .ok (.invokevirtual 37, 3) := dk_182 0 37 (dk_at dksL_law_9 9 rfl rfl)
theorem dL_law_235 : decode cL_law 235 = .ok (.aload_n 2, 1) := dk_44 (dk_at dksL_law_9 12 rfl rfl)
theorem dL_law_236 : decode cL_law 236 = .ok (.invokevirtual 41, 3) := dk_182 0 41 (dk_at dksL_law_9 13 rfl rfl)
theorem dL_law_239 : decode cL_law 239 = .ok (.if_icmp .eq 39, 3) := dk_159 0 39 (dk_at dksL_law_9 16 rfl rfl)
theorem dL_law_242 : decode cL_law 242 = .ok (.iconst 0, 1) := dk_3 (dk_at dksL_law_9 19 rfl rfl)
theorem dL_law_243 : decode cL_law 243 = .ok (.ireturn, 1) := dk_172 (dk_at dksL_law_9 20 rfl rfl)
theorem dL_law_244 : decode cL_law 244 = .ok (.aload_n 1, 1) := dk_43 (dk_at dksL_law_9 21 rfl rfl)
theorem dL_law_245 : decode cL_law 245 = .ok (.invokevirtual 42, 3) := dk_182 0 42 (dk_at dksL_law_10 0 rfl rfl)
theorem dL_law_248 : decode cL_law 248 = .ok (.aload_n 2, 1) := dk_44 (dk_at dksL_law_10 3 rfl rfl)
theorem dL_law_249 : decode cL_law 249 = .ok (.invokevirtual 45, 3) := dk_182 0 45 (dk_at dksL_law_10 4 rfl rfl)
theorem dL_law_252 : decode cL_law 252 = .ok (.goto 26, 3) := dk_167 0 26 (dk_at dksL_law_10 7 rfl rfl)
theorem dL_law_255 : decode cL_law 255 = .ok (.aload_n 1, 1) := dk_43 (dk_at dksL_law_10 10 rfl rfl)
theorem dL_law_256 : decode cL_law 256 = .ok (.aload_n 0, 1) := dk_42 (dk_at dksL_law_10 11 rfl rfl)
theorem dL_law_257 : decode cL_law 257 = .ok (.iload_n 3, 1) := dk_29 (dk_at dksL_law_10 12 rfl rfl)
theorem dL_law_258 : decode cL_law 258 = .ok (.iconst 1, 1) := dk_4 (dk_at dksL_law_10 13 rfl rfl)
theorem dL_law_259 : decode cL_law 259 = .ok (.iadd, 1) := dk_96 (dk_at dksL_law_10 14 rfl rfl)
theorem dL_law_260 : decode cL_law 260 = .ok (.iaload, 1) := dk_46 (dk_at dksL_law_10 15 rfl rfl)
theorem dL_law_261 : decode cL_law 261 = .ok (.invokevirtual 46, 3) := dk_182 0 46 (dk_at dksL_law_10 16 rfl rfl)
theorem dL_law_264 : decode cL_law 264 = .ok (.aload_n 2, 1) := dk_44 (dk_at dksL_law_10 19 rfl rfl)
theorem dL_law_265 : decode cL_law 265 = .ok (.aload_n 0, 1) := dk_42 (dk_at dksL_law_10 20 rfl rfl)
theorem dL_law_266 : decode cL_law 266 = .ok (.iload_n 3, 1) := dk_29 (dk_at dksL_law_10 21 rfl rfl)
theorem dL_law_267 : decode cL_law 267 = .ok (.iconst 1, 1) := dk_4 (dk_at dksL_law_10 22 rfl rfl)
theorem dL_law_268 : decode cL_law 268 = .ok (.iadd, 1) := dk_96 (dk_at dksL_law_10 23 rfl rfl)
theorem dL_law_269 : decode cL_law 269 = .ok (.iaload, 1) := dk_46 (dk_at dksL_law_11 0 rfl rfl)
theorem dL_law_270 : decode cL_law 270 = .ok (.invokevirtual 50, 3) := dk_182 0 50 (dk_at dksL_law_11 1 rfl rfl)
theorem dL_law_273 : decode cL_law 273 = .ok (.if_icmp .eq 5, 3) := dk_159 0 5 (dk_at dksL_law_11 4 rfl rfl)
theorem dL_law_276 : decode cL_law 276 = .ok (.iconst 0, 1) := dk_3 (dk_at dksL_law_11 7 rfl rfl)
theorem dL_law_277 : decode cL_law 277 = .ok (.ireturn, 1) := dk_172 (dk_at dksL_law_11 8 rfl rfl)
theorem dL_law_278 : decode cL_law 278 = .ok (.iinc 3 6, 3) := dk_132 3 6 (dk_at dksL_law_11 9 rfl rfl)
theorem dL_law_281 : decode cL_law 281 = .ok (.goto (-263), 3) := dk_167 254 249 (dk_at dksL_law_11 12 rfl rfl)
theorem dL_law_284 : decode cL_law 284 = .ok (.iconst 1, 1) := dk_4 (dk_at dksL_law_11 15 rfl rfl)
theorem dL_law_285 : decode cL_law 285 = .ok (.ireturn, 1) := dk_172 (dk_at dksL_law_11 16 rfl rfl)
theorem q19 : (Jvm.Cond.initialized "CryptoServicePurpose") ∈ lw_all := lw_g (lw_at lw_m1 5 rfl) rfl
set_option maxRecDepth 100000
theorem q37 : (Jvm.Cond.laysStatic "CryptoServicePurpose" "ANY" "LCryptoServicePurpose;") ∈ lw_tbl := lw_at lw_m1 23 rfl
theorem q134 : (Jvm.Cond.interfaceMethod "Digest" "Digest" "update" "([BII)V") ∈ lw_tbl := lw_at lw_m1 120 rfl
set_option maxRecDepth 100000
theorem q135 : (Jvm.Cond.declares ({ cls := "Digest", name := "update", desc := "([BII)V" } : Jvm.MethodName)) ∈ lw_tbl := lw_at lw_m1 121 rfl
theorem q190 : (Jvm.Cond.interfaceMethod "Digest" "Digest" "update" "(B)V") ∈ lw_tbl := lw_at lw_m1 176 rfl
theorem q191 : (Jvm.Cond.declares ({ cls := "Digest", name := "update", desc := "(B)V" } : Jvm.MethodName)) ∈ lw_tbl := lw_at lw_m1 177 rfl
theorem q203 : (Jvm.Cond.interfaceMethod "Digest" "Digest" "doFinal" "([BI)I") ∈ lw_tbl := lw_at lw_m1 189 rfl
theorem q204 : (Jvm.Cond.declares ({ cls := "Digest", name := "doFinal", desc := "([BI)I" } : Jvm.MethodName)) ∈ lw_tbl := lw_at lw_m1 190 rfl
theorem q239 : (Jvm.Cond.interfaceMethod "Digest" "Digest" "reset" "()V") ∈ lw_tbl := lw_at lw_m1 225 rfl
theorem q240 : (Jvm.Cond.declares ({ cls := "Digest", name := "reset", desc := "()V" } : Jvm.MethodName)) ∈ lw_tbl := lw_at lw_m1 226 rfl
theorem q14 : (Jvm.Cond.initialized "SmDigestDeskLaw") ∈ lw_all := lw_g (lw_at lw_m1 0 rfl) rfl
set_option maxRecDepth 100000
theorem q23 : (Jvm.Cond.classLink "SmDigestDeskLaw" (7 : Nat) "SmDigestDesk") ∈ lw_all := lw_g (lw_at lw_m1 9 rfl) rfl
theorem q25 : (Jvm.Cond.methodLink "SmDigestDeskLaw" (9 : Nat) ({ cls := "SmDigestDesk", name := "<init>", desc := "()V" } : Jvm.MethodName)) ∈ lw_all := lw_g (lw_at lw_m1 11 rfl) rfl
theorem q103 : (Jvm.Cond.methodLink "SmDigestDeskLaw" (13 : Nat) ({ cls := "SmDigestDesk", name := "put", desc := "(IIII)Z" } : Jvm.MethodName)) ∈ lw_all := lw_g (lw_at lw_m1 89 rfl) rfl
theorem q111 : (Jvm.Cond.methodLink "SmDigestDeskLaw" (18 : Nat) ({ cls := "SmDigestDesk", name := "trim", desc := "(I)V" } : Jvm.MethodName)) ∈ lw_all := lw_g (lw_at lw_m1 97 rfl) rfl
theorem q120 : (Jvm.Cond.methodLink "SmDigestDeskLaw" (23 : Nat) ({ cls := "SmDigestDesk", name := "begin", desc := "(I)V" } : Jvm.MethodName)) ∈ lw_all := lw_g (lw_at lw_m1 106 rfl) rfl
theorem q124 : (Jvm.Cond.methodLink "SmDigestDeskLaw" (27 : Nat) ({ cls := "SmDigestDesk", name := "feed", desc := "(II)Z" } : Jvm.MethodName)) ∈ lw_all := lw_g (lw_at lw_m1 110 rfl) rfl
theorem q184 : (Jvm.Cond.methodLink "SmDigestDeskLaw" (32 : Nat) ({ cls := "SmDigestDesk", name := "one", desc := "(I)Z" } : Jvm.MethodName)) ∈ lw_all := lw_g (lw_at lw_m1 170 rfl) rfl
theorem q197 : (Jvm.Cond.methodLink "SmDigestDeskLaw" (37 : Nat) ({ cls := "SmDigestDesk", name := "close", desc := "()I" } : Jvm.MethodName)) ∈ lw_all := lw_g (lw_at lw_m1 183 rfl) rfl
theorem q233 : (Jvm.Cond.methodLink "SmDigestDeskLaw" (42 : Nat) ({ cls := "SmDigestDesk", name := "drop", desc := "()V" } : Jvm.MethodName)) ∈ lw_all := lw_g (lw_at lw_m1 219 rfl) rfl
theorem q244 : (Jvm.Cond.methodLink "SmDigestDeskLaw" (46 : Nat) ({ cls := "SmDigestDesk", name := "out", desc := "(I)I" } : Jvm.MethodName)) ∈ lw_all := lw_g (lw_at lw_m1 230 rfl) rfl
theorem q248 : (Jvm.Cond.classLink "SmDigestDeskLaw" (10 : Nat) "SmDigestDeskModel") ∈ lw_all := lw_g (lw_at lw_m1 234 rfl) rfl
theorem q250 : (Jvm.Cond.methodLink "SmDigestDeskLaw" (12 : Nat) ({ cls := "SmDigestDeskModel", name := "<init>", desc := "()V" } : Jvm.MethodName)) ∈ lw_all := lw_g (lw_at lw_m1 236 rfl) rfl
theorem q279 : (Jvm.Cond.methodLink "SmDigestDeskLaw" (17 : Nat) ({ cls := "SmDigestDeskModel", name := "put", desc := "(IIII)Z" } : Jvm.MethodName)) ∈ lw_all := lw_g (lw_at lw_m2 25 rfl) rfl
theorem q283 : (Jvm.Cond.methodLink "SmDigestDeskLaw" (22 : Nat) ({ cls := "SmDigestDeskModel", name := "trim", desc := "(I)V" } : Jvm.MethodName)) ∈ lw_all := lw_g (lw_at lw_m2 29 rfl) rfl
theorem q292 : (Jvm.Cond.methodLink "SmDigestDeskLaw" (26 : Nat) ({ cls := "SmDigestDeskModel", name := "begin", desc := "(I)V" } : Jvm.MethodName)) ∈ lw_all := lw_g (lw_at lw_m2 38 rfl) rfl
theorem q296 : (Jvm.Cond.methodLink "SmDigestDeskLaw" (31 : Nat) ({ cls := "SmDigestDeskModel", name := "feed", desc := "(II)Z" } : Jvm.MethodName)) ∈ lw_all := lw_g (lw_at lw_m2 42 rfl) rfl
theorem q304 : (Jvm.Cond.methodLink "SmDigestDeskLaw" (36 : Nat) ({ cls := "SmDigestDeskModel", name := "one", desc := "(I)Z" } : Jvm.MethodName)) ∈ lw_all := lw_g (lw_at lw_m2 50 rfl) rfl
theorem q308 : (Jvm.Cond.methodLink "SmDigestDeskLaw" (41 : Nat) ({ cls := "SmDigestDeskModel", name := "close", desc := "()I" } : Jvm.MethodName)) ∈ lw_all := lw_g (lw_at lw_m2 54 rfl) rfl
theorem q348 : (Jvm.Cond.methodLink "SmDigestDeskLaw" (45 : Nat) ({ cls := "SmDigestDeskModel", name := "drop", desc := "()V" } : Jvm.MethodName)) ∈ lw_all := lw_g (lw_at lw_m2 94 rfl) rfl
theorem q352 : (Jvm.Cond.methodLink "SmDigestDeskLaw" (50 : Nat) ({ cls := "SmDigestDeskModel", name := "out", desc := "(I)I" } : Jvm.MethodName)) ∈ lw_all := lw_g (lw_at lw_m2 98 rfl) rfl
theorem q18 : (Jvm.Cond.initialized "java/lang/Enum") ∈ lw_all := lw_g (lw_at lw_m1 4 rfl) rfl
set_option maxRecDepth 100000
theorem q85 : (Jvm.Cond.arrayClass Jvm.ClassFile.FieldType.byte) ∈ lw_all := lw_g (lw_at lw_m1 71 rfl) rfl
set_option maxRecDepth 100000
theorem q86 : (Jvm.Cond.arrayClass Jvm.ClassFile.FieldType.int) ∈ lw_all := lw_g (lw_at lw_m1 72 rfl) rfl
end
section
/-! out of kit/laws/BITS.to-paste: bits, a byte unsigned, lN under shifts and masks -/
set_option maxRecDepth 100000
/-! ===== Int32 by its bits: bt x i ===== -/
def bt (x : Int32) (i : Nat) : Bool := x.toBitVec.getLsbD i
theorem b_ext {x y : Int32} (h : ∀ i, i < 32 → bt x i = bt y i) : x = y := Int32.toBitVec_inj.mp (BitVec.eq_of_getLsbD_eq (fun i hi => h i hi))
theorem b_or (x y : Int32) (i : Nat) : bt (x ||| y) i = (bt x i || bt y i) := by unfold bt; rw [Int32.toBitVec_or, BitVec.getLsbD_or]
theorem b_and (x y : Int32) (i : Nat) : bt (x &&& y) i = (bt x i && bt y i) := by unfold bt; rw [Int32.toBitVec_and, BitVec.getLsbD_and]
theorem b_xor (x y : Int32) (i : Nat) : bt (x ^^^ y) i = (bt x i ^^ bt y i) := by unfold bt; rw [Int32.toBitVec_xor, BitVec.getLsbD_xor]
theorem b_big {x : Int32} {i : Nat} (h : 32 ≤ i) : bt x i = false := BitVec.getLsbD_of_ge _ _ h
theorem b_255 (i : Nat) : bt 255 i = decide (i < 8) := by
  rcases Nat.lt_or_ge i 32 with h | h
  · exact (by decide +kernel : ∀ i, i < 32 → bt 255 i = decide (i < 8)) i h
  · rw [b_big h, decide_eq_false (by omega)]
theorem b_65535 (i : Nat) : bt 65535 i = decide (i < 16) := by
  rcases Nat.lt_or_ge i 32 with h | h
  · exact (by decide +kernel : ∀ i, i < 32 → bt 65535 i = decide (i < 16)) i h
  · rw [b_big h, decide_eq_false (by omega)]
theorem b_m1 : ∀ i, i < 32 → bt (-1) i = true := by decide +kernel
theorem b_0 (i : Nat) : bt 0 i = false := BitVec.getLsbD_zero
theorem s_l : ∀ n, n < 32 → ((nI n &&& 31).toBitVec.smod 32).toNat = n := by decide +kernel
theorem s_u : ∀ n, n < 32 → (((nI n).toUInt32 &&& Int32.toUInt32 31).toBitVec % 32).toNat = n := by decide +kernel
theorem b_shl (n : Nat) (hn : n < 32) (x : Int32) {i : Nat} (hi : i < 32) : bt (x <<< (nI n &&& 31)) i = (decide (n ≤ i) && bt x (i - n)) := by
  unfold bt
  rw [Int32.toBitVec_shiftLeft]
  show (x.toBitVec <<< ((nI n &&& 31).toBitVec.smod 32).toNat).getLsbD i = _
  rw [s_l n hn, BitVec.getLsbD_shiftLeft]
  rcases Nat.lt_or_ge i n with h | h
  · simp [h, Nat.not_le.mpr h]
  · simp [hi, h, Nat.not_lt.mpr h]
theorem b_ushr (n : Nat) (hn : n < 32) (x : Int32) (i : Nat) : bt ((x.toUInt32 >>> ((nI n).toUInt32 &&& Int32.toUInt32 31)).toInt32) i = bt x (n + i) := by
  show (x.toUInt32 >>> ((nI n).toUInt32 &&& Int32.toUInt32 31)).toBitVec.getLsbD i = x.toUInt32.toBitVec.getLsbD (n + i)
  rw [UInt32.toBitVec_shiftRight]
  show (x.toUInt32.toBitVec >>> (((nI n).toUInt32 &&& Int32.toUInt32 31).toBitVec % 32).toNat).getLsbD i = _
  rw [s_u n hn, BitVec.getLsbD_ushiftRight]
theorem b_sshr (n : Nat) (hn : n < 32) (x : Int32) {i : Nat} (hi : i < 32) : bt (x >>> (nI n &&& 31)) i = if n + i < 32 then bt x (n + i) else bt x 31 := by
  unfold bt
  rw [Int32.toBitVec_shiftRight]
  show (x.toBitVec.sshiftRight ((nI n &&& 31).toBitVec.smod 32).toNat).getLsbD i = _
  rw [s_l n hn, BitVec.getLsbD_sshiftRight, BitVec.msb_eq_getLsbD_last]
  simp [hi]
theorem b_shl8 (x : Int32) {i : Nat} (hi : i < 32) : bt (x <<< ((8 : Int32) &&& 31)) i = (decide (8 ≤ i) && bt x (i - 8)) := b_shl 8 (by omega) x hi
theorem b_shl16 (x : Int32) {i : Nat} (hi : i < 32) : bt (x <<< ((16 : Int32) &&& 31)) i = (decide (16 ≤ i) && bt x (i - 16)) := b_shl 16 (by omega) x hi
theorem b_shl24 (x : Int32) {i : Nat} (hi : i < 32) : bt (x <<< ((24 : Int32) &&& 31)) i = (decide (24 ≤ i) && bt x (i - 24)) := b_shl 24 (by omega) x hi
theorem b_sshr8 (x : Int32) {i : Nat} (hi : i < 32) : bt (x >>> ((8 : Int32) &&& 31)) i = if 8 + i < 32 then bt x (8 + i) else bt x 31 := b_sshr 8 (by omega) x hi
/-! ===== a byte read unsigned ===== -/
theorem bp_b (x : Int32) : x.toInt8.toInt32 &&& 255 = x &&& 255 := by
  apply Int32.toBitVec_inj.mp
  rw [Int32.toBitVec_and, Int32.toBitVec_and, Int8.toBitVec_toInt32, Int32.toBitVec_toInt8]
  apply BitVec.eq_of_getLsbD_eq
  intro i hi
  rw [BitVec.getLsbD_and, BitVec.getLsbD_and]
  have hm : ∀ i < 32, 8 ≤ i → (255 : Int32).toBitVec.getLsbD i = false := by decide
  rcases Nat.lt_or_ge i 8 with z | z
  · rw [BitVec.getLsbD_signExtend, BitVec.getLsbD_signExtend, if_pos z, if_pos hi]
    simp only [z, hi, decide_true, Bool.true_and]
  · rw [hm i hi z]; simp
/-! ===== lN n to 2^64: shifts, and, or, masks, one bit ===== -/
theorem wb_tb (n : Nat) : (lN n).toBitVec = BitVec.ofNat 64 n := rfl
theorem wb_inj {a b : Int64} (h : a.toBitVec = b.toBitVec) : a = b := Int64.toBitVec_inj.mp h
theorem wb_tn {n : Nat} (h : n < 2 ^ 64) : (lN n).toBitVec.toNat = n := by rw [wb_tb, BitVec.toNat_ofNat, Nat.mod_eq_of_lt h]
theorem wb_of (x : Int64) : ∃ n, n < 2 ^ 64 ∧ x = lN n := ⟨x.toBitVec.toNat, x.toBitVec.isLt, wb_inj (by rw [wb_tb]; simp)⟩
theorem wb_of32 (x : Int32) : ∃ n, n < 2 ^ 32 ∧ x = nI n := ⟨x.toBitVec.toNat, x.toBitVec.isLt, Int32.toBitVec_inj.mp (by show _ = BitVec.ofNat 32 _; simp)⟩
theorem wb_c : ∀ k, k < 64 → ((nI k).toInt64 &&& 63) = lN k := by decide +kernel
theorem wb_cu : ∀ k, k < 64 → ((nI k).toInt64.toUInt64 &&& Int64.toUInt64 63) = UInt64.ofNat k := by decide +kernel
theorem wb_sm : ∀ k, k < 64 → (BitVec.ofNat 64 k).smod 64 = BitVec.ofNat 64 k := by decide +kernel
theorem wb_pw {a b : Nat} (h : a ≤ b) : 2 ^ b = 2 ^ a * 2 ^ (b - a) := by rw [← Nat.pow_add]; congr 1; omega
theorem wb_lt2 {a b : Nat} (h : a < b) : 2 ^ a < 2 ^ b := Nat.pow_lt_pow_right (by decide) h
theorem wb_mod (n : Nat) : lN n = lN (n % 2 ^ 64) := wb_inj (by rw [wb_tb, wb_tb]; apply BitVec.eq_of_toNat_eq; rw [BitVec.toNat_ofNat, BitVec.toNat_ofNat, Nat.mod_mod])
theorem wb_shr {n k : Nat} (hn : n < 2 ^ 64) (hk : k < 64) : ((lN n).toUInt64 >>> ((nI k).toInt64.toUInt64 &&& Int64.toUInt64 63)).toInt64 = lN (n / 2 ^ k) := by
  rw [wb_cu k hk]
  apply wb_inj
  apply BitVec.eq_of_toNat_eq
  show ((lN n).toUInt64 >>> UInt64.ofNat k).toNat = (BitVec.ofNat 64 _).toNat
  have h1 : (UInt64.ofNat k).toNat = k := by
    show (BitVec.ofNat 64 k).toNat = k
    rw [BitVec.toNat_ofNat, Nat.mod_eq_of_lt (by omega)]
  have h2 : (lN n).toUInt64.toNat = n := wb_tn hn
  rw [UInt64.toNat_shiftRight, h1, h2, Nat.mod_eq_of_lt hk, Nat.shiftRight_eq_div_pow, BitVec.toNat_ofNat, Nat.mod_eq_of_lt (Nat.lt_of_le_of_lt (Nat.div_le_self _ _) hn)]
theorem wb_shl (n : Nat) {k : Nat} (hk : k < 64) : lN n <<< ((nI k).toInt64 &&& 63) = lN (n * 2 ^ k) := by
  rw [wb_c k hk]
  apply wb_inj
  rw [Int64.toBitVec_shiftLeft, wb_tb, wb_tb, wb_tb, wb_sm k hk]
  apply BitVec.eq_of_toNat_eq
  rw [BitVec.shiftLeft_eq', BitVec.toNat_shiftLeft, BitVec.toNat_ofNat, BitVec.toNat_ofNat, BitVec.toNat_ofNat, Nat.mod_eq_of_lt (show k < 2 ^ 64 by omega), Nat.shiftLeft_eq, Nat.mul_mod, Nat.mod_mod, ← Nat.mul_mod]
theorem wb_and {a b : Nat} (ha : a < 2 ^ 64) (hb : b < 2 ^ 64) : lN a &&& lN b = lN (a &&& b) := by
  apply wb_inj
  rw [Int64.toBitVec_and, wb_tb, wb_tb, wb_tb]
  apply BitVec.eq_of_toNat_eq
  rw [BitVec.toNat_and, BitVec.toNat_ofNat, BitVec.toNat_ofNat, BitVec.toNat_ofNat, Nat.mod_eq_of_lt ha, Nat.mod_eq_of_lt hb, Nat.mod_eq_of_lt (Nat.and_lt_two_pow _ hb)]
theorem wb_or {a b : Nat} (ha : a < 2 ^ 64) (hb : b < 2 ^ 64) : lN a ||| lN b = lN (a ||| b) := by
  apply wb_inj
  rw [Int64.toBitVec_or, wb_tb, wb_tb, wb_tb]
  apply BitVec.eq_of_toNat_eq
  rw [BitVec.toNat_or, BitVec.toNat_ofNat, BitVec.toNat_ofNat, BitVec.toNat_ofNat, Nat.mod_eq_of_lt ha, Nat.mod_eq_of_lt hb, Nat.mod_eq_of_lt (Nat.or_lt_two_pow ha hb)]
theorem wb_mask {n k : Nat} (hn : n < 2 ^ 64) (hk : k < 64) : lN n &&& lN (2 ^ k - 1) = lN (n % 2 ^ k) := by
  rw [wb_and hn (by have := wb_lt2 hk; omega), Nat.and_two_pow_sub_one_eq_mod]
theorem wb_a1 {n : Nat} (hn : n < 2 ^ 64) : lN n &&& 1 = lN (n % 2) := wb_mask (k := 1) hn (by decide)
theorem wb_bit {n k : Nat} (hn : n < 2 ^ 64) (hk : k < 64) : ((lN n).toUInt64 >>> ((nI k).toInt64.toUInt64 &&& Int64.toUInt64 63)).toInt64 &&& 1 = lN (n / 2 ^ k % 2) := by
  rw [wb_shr hn hk, wb_a1 (Nat.lt_of_le_of_lt (Nat.div_le_self _ _) hn)]
theorem wb_xor {q k : Nat} (hk : k < 63) (h : 2 ^ k ≤ q) (h2 : q < 2 ^ (k + 1)) : lN q ^^^ lN (2 ^ k) = lN (q - 2 ^ k) := by
  obtain ⟨r, rfl⟩ : ∃ r, q = 2 ^ k + r := ⟨q - 2 ^ k, by omega⟩
  have hr : r < 2 ^ k := by rw [Nat.pow_succ] at h2; omega
  have hx : (2 ^ k + r) ^^^ 2 ^ k = r := by
    apply Nat.eq_of_testBit_eq
    intro i
    rw [Nat.testBit_xor, Nat.testBit_two_pow]
    rcases Nat.lt_trichotomy i k with h | h | h
    · rw [Nat.testBit_two_pow_add_gt h]
      simp [show ¬ k = i by omega]
    · subst h
      rw [Nat.testBit_two_pow_add_eq]
      simp
    · have a1 : 2 ^ (k + 1) ≤ 2 ^ i := Nat.pow_le_pow_right (by decide) h
      rw [Nat.testBit_lt_two_pow (show 2 ^ k + r < 2 ^ i by omega), Nat.testBit_lt_two_pow (show r < 2 ^ i by omega)]
      simp [show ¬ k = i by omega]
  have b1 := wb_lt2 (show k + 1 < 64 by omega)
  have b2 := wb_lt2 (show k < 64 by omega)
  apply wb_inj
  rw [Int64.toBitVec_xor, wb_tb, wb_tb, wb_tb]
  apply BitVec.eq_of_toNat_eq
  rw [BitVec.toNat_xor, BitVec.toNat_ofNat, BitVec.toNat_ofNat, BitVec.toNat_ofNat, Nat.mod_eq_of_lt (by omega : 2 ^ k + r < 2 ^ 64), Nat.mod_eq_of_lt b2, hx, Nat.add_sub_cancel_left, Nat.mod_eq_of_lt (by omega)]
end
section
/-! THE PLAIN SIDE: SM3 as both programs work it out; words, rounds, blocks, the padded message -/
set_option maxRecDepth 100000
/-- a turn to the left, as javac spells it: left by a, right by b -/
def rl (a b x : Int32) : Int32 := (x <<< (a &&& 31)) ||| (x.toUInt32 >>> (b.toUInt32 &&& Int32.toUInt32 31)).toInt32
def rot (k : Nat) (x : Int32) : Int32 := if k % 32 = 0 then x else rl (nI (k % 32)) (nI (32 - k % 32)) x
def sP0 (x : Int32) : Int32 := (x ^^^ rl 9 23 x) ^^^ rl 17 15 x
def sP1 (x : Int32) : Int32 := (x ^^^ rl 15 17 x) ^^^ rl 23 9 x
def sFF (j : Nat) (x y z : Int32) : Int32 := if j < 16 then (x ^^^ y) ^^^ z else ((x &&& y) ||| (x &&& z)) ||| (y &&& z)
def sGG (j : Nat) (x y z : Int32) : Int32 := if j < 16 then (x ^^^ y) ^^^ z else (x &&& y) ||| ((x ^^^ (-1)) &&& z)
def sT (j : Nat) : Int32 := rot j (if j < 16 then 2043430169 else 2055708042)
/-- the word j of the expanded block, out of the words before it -/
def sSt (f : Nat → Int32) (j : Nat) : Int32 := (sP1 ((f (j - 16) ^^^ f (j - 9)) ^^^ rl 15 17 (f (j - 3))) ^^^ rl 7 25 (f (j - 13))) ^^^ f (j - 6)
def sWc (M : Nat → Int32) (j : Nat) : Int32 := if h : j < 16 then M j else (sP1 ((sWc M (j - 16) ^^^ sWc M (j - 9)) ^^^ rl 15 17 (sWc M (j - 3))) ^^^ rl 7 25 (sWc M (j - 13))) ^^^ sWc M (j - 6)
termination_by j
decreasing_by all_goals omega
theorem sWc_lo {M : Nat → Int32} {j : Nat} (h : j < 16) : sWc M j = M j := by
  rw [sWc, dif_pos h]
theorem sWc_hi {M : Nat → Int32} {j : Nat} (h : 16 ≤ j) : sWc M j = sSt (sWc M) j := by
  rw [sWc, dif_neg (by omega)]
  rfl
theorem sSt_congr {f g : Nat → Int32} {j : Nat} (hj : 16 ≤ j) (h : ∀ i, i < j → f i = g i) : sSt f j = sSt g j := by
  unfold sSt
  rw [h (j - 16) (by omega), h (j - 9) (by omega), h (j - 3) (by omega), h (j - 13) (by omega), h (j - 6) (by omega)]
theorem sWc_congr {M M' : Nat → Int32} (h : ∀ i, i < 16 → M i = M' i) : ∀ j, sWc M j = sWc M' j := by
  intro j
  induction j using Nat.strongRecOn with
  | ind j ih =>
    by_cases hj : j < 16
    · rw [sWc_lo hj, sWc_lo hj, h j hj]
    · rw [sWc_hi (by omega), sWc_hi (by omega)]
      exact sSt_congr (by omega) ih
abbrev R8 : Type := Int32 × Int32 × Int32 × Int32 × Int32 × Int32 × Int32 × Int32
def rA (w : Nat → Int32) (j : Nat) (a b c d e : Int32) : Int32 := ((sFF j a b c + d) + (rl 7 25 ((rl 12 20 a + e) + sT j) ^^^ rl 12 20 a)) + (w j ^^^ w (j + 4))
def rE (w : Nat → Int32) (j : Nat) (a e f g h : Int32) : Int32 := ((sGG j e f g + h) + rl 7 25 ((rl 12 20 a + e) + sT j)) + w j
def rnd (w : Nat → Int32) (j : Nat) (q : R8) : R8 :=
  (rA w j q.1 q.2.1 q.2.2.1 q.2.2.2.1 q.2.2.2.2.1, q.1, rl 9 23 q.2.1, q.2.2.1, sP0 (rE w j q.1 q.2.2.2.2.1 q.2.2.2.2.2.1 q.2.2.2.2.2.2.1 q.2.2.2.2.2.2.2), q.2.2.2.2.1, rl 19 13 q.2.2.2.2.2.1, q.2.2.2.2.2.2.1)
def rnds (w : Nat → Int32) : Nat → R8 → R8
  | 0, q => q
  | k + 1, q => rnd w k (rnds w k q)
theorem rA_congr {w w' : Nat → Int32} {j : Nat} (h : ∀ i, i < j + 5 → w i = w' i) (a b c d e : Int32) : rA w j a b c d e = rA w' j a b c d e := by
  unfold rA
  rw [h j (by omega), h (j + 4) (by omega)]
theorem rE_congr {w w' : Nat → Int32} {j : Nat} (h : ∀ i, i < j + 5 → w i = w' i) (a e f g k : Int32) : rE w j a e f g k = rE w' j a e f g k := by
  unfold rE
  rw [h j (by omega)]
theorem rnd_congr {w w' : Nat → Int32} {j : Nat} (h : ∀ i, i < j + 5 → w i = w' i) (q : R8) : rnd w j q = rnd w' j q := by
  unfold rnd
  rw [rA_congr h, rE_congr h]
theorem rnds_congr {w w' : Nat → Int32} : ∀ (k : Nat), (∀ i, i < k + 4 → w i = w' i) → ∀ q, rnds w k q = rnds w' k q := by
  intro k
  induction k with
  | zero => intro _ q; rfl
  | succ k ih =>
    intro h q
    show rnd w k (rnds w k q) = rnd w' k (rnds w' k q)
    rw [ih (fun i hi => h i (by omega)), rnd_congr (fun i hi => h i (by omega))]
def x8 (a b : R8) : R8 := (a.1 ^^^ b.1, a.2.1 ^^^ b.2.1, a.2.2.1 ^^^ b.2.2.1, a.2.2.2.1 ^^^ b.2.2.2.1, a.2.2.2.2.1 ^^^ b.2.2.2.2.1, a.2.2.2.2.2.1 ^^^ b.2.2.2.2.2.1, a.2.2.2.2.2.2.1 ^^^ b.2.2.2.2.2.2.1, a.2.2.2.2.2.2.2 ^^^ b.2.2.2.2.2.2.2)
/-- one block into the chain -/
def cmp8 (M : Nat → Int32) (q : R8) : R8 := x8 q (rnds (sWc M) 64 q)
theorem cmp8_congr {M M' : Nat → Int32} (h : ∀ i, i < 16 → M i = M' i) (q : R8) : cmp8 M q = cmp8 M' q := by
  unfold cmp8
  rw [rnds_congr 64 (fun i _ => sWc_congr h i)]
def iv8 : R8 := (1937774191, 1226093241, 388252375, -628488704, -1452330820, 372324522, -477237683, -1325724082)
/-- the chain behind b blocks of the word sequence w -/
def chn (w : Nat → Int32) : Nat → R8
  | 0 => iv8
  | b + 1 => cmp8 (fun i => w (16 * b + i)) (chn w b)
theorem chn_congr {w w' : Nat → Int32} : ∀ b, (∀ i, i < 16 * b → w i = w' i) → chn w b = chn w' b := by
  intro b
  induction b with
  | zero => intro _; rfl
  | succ b ih =>
    intro h
    show cmp8 _ (chn w b) = cmp8 _ (chn w' b)
    rw [ih (fun i hi => h i (by omega))]
    exact cmp8_congr (fun i hi => h _ (by omega)) _
/-- the first eight of an array -/
def v8 (v : Nat → Int32) : R8 := (v 0, v 1, v 2, v 3, v 4, v 5, v 6, v 7)
theorem v8_congr {v v' : Nat → Int32} (h : ∀ i, i < 8 → v i = v' i) : v8 v = v8 v' := by
  unfold v8
  rw [h 0 (by decide), h 1 (by decide), h 2 (by decide), h 3 (by decide), h 4 (by decide), h 5 (by decide), h 6 (by decide), h 7 (by decide)]
theorem v8_at {v : Nat → Int32} {q : R8} (h : v8 v = q) : v 0 = q.1 ∧ v 1 = q.2.1 ∧ v 2 = q.2.2.1 ∧ v 3 = q.2.2.2.1 ∧ v 4 = q.2.2.2.2.1 ∧ v 5 = q.2.2.2.2.2.1 ∧ v 6 = q.2.2.2.2.2.2.1 ∧ v 7 = q.2.2.2.2.2.2.2 := by
  subst h
  exact ⟨rfl, rfl, rfl, rfl, rfl, rfl, rfl, rfl⟩
theorem v8_inj {v v' : Nat → Int32} (h : v8 v = v8 v') : ∀ i, i < 8 → v i = v' i := by
  obtain ⟨h0, h1, h2, h3, h4, h5, h6, h7⟩ := v8_at h
  intro i hi
  match i, hi with
  | 0, _ => exact h0
  | 1, _ => exact h1
  | 2, _ => exact h2
  | 3, _ => exact h3
  | 4, _ => exact h4
  | 5, _ => exact h5
  | 6, _ => exact h6
  | 7, _ => exact h7
  | i + 8, h => exact absurd h (by omega)
/-- four bytes as a word, as Pack spells it -/
def be (f : Nat → Int32) (p : Nat) : Int32 := (((f p <<< ((24 : Int32) &&& 31)) ||| ((f (p + 1) &&& 255) <<< ((16 : Int32) &&& 31))) ||| ((f (p + 2) &&& 255) <<< ((8 : Int32) &&& 31))) ||| (f (p + 3) &&& 255)
theorem be_congr {f g : Nat → Int32} {p q : Nat} (h : ∀ i, i < 4 → f (p + i) = g (q + i)) : be f p = be g q := by
  unfold be
  rw [show f p = g q from h 0 (by decide), h 1 (by decide), h 2 (by decide), h 3 (by decide)]
def wdm (msg : Nat → Int32) (i : Nat) : Int32 := be msg (4 * i)
/-- the words that a digest has taken: k of the sequence w -/
def DW (w : Nat → Int32) (k : Nat) (v iw : Nat → Int32) (xo : Int32) : Prop := v8 v = chn w (k / 16) ∧ xo = nI (k % 16) ∧ ∀ i, i < k % 16 → iw i = w (16 * (k / 16) + i)
/-- the bytes that a digest has taken: n of the message msg -/
def DB (msg : Nat → Int32) (n : Nat) (v iw xb : Nat → Int32) (xo xbo : Int32) : Prop := DW (wdm msg) (n / 4) v iw xo ∧ xbo = nI (n % 4) ∧ ∀ i, i < n % 4 → xb i = msg (4 * (n / 4) + i)
theorem DW.congr {w w' : Nat → Int32} {k : Nat} {v iw : Nat → Int32} {xo : Int32} (h : DW w k v iw xo) (e : ∀ i, i < k → w i = w' i) : DW w' k v iw xo := by
  refine ⟨h.1.trans (chn_congr _ (fun i hi => e i (by omega))), h.2.1, fun i hi => (h.2.2 i hi).trans (e _ (by omega))⟩
theorem DB.congr {m m' : Nat → Int32} {n : Nat} {v iw xb : Nat → Int32} {xo xbo : Int32} (h : DB m n v iw xb xo xbo) (e : ∀ i, i < n → m i = m' i) : DB m' n v iw xb xo xbo := by
  refine ⟨h.1.congr (fun i hi => be_congr (fun j hj => e _ (by omega))), h.2.1, fun i hi => (h.2.2 i hi).trans (e _ (by omega))⟩
/-- a word more, that doesn't fill the block -/
theorem DW.push {w : Nat → Int32} {k : Nat} {v iw : Nat → Int32} {xo : Int32} (h : DW w k v iw xo) (hk : k % 16 < 15) {x : Int32} (hx : x = w k) : DW w (k + 1) v (upd iw (k % 16) x) (nI (k % 16 + 1)) := by
  have e1 : (k + 1) / 16 = k / 16 := by omega
  have e2 : (k + 1) % 16 = k % 16 + 1 := by omega
  refine ⟨by rw [e1]; exact h.1, by rw [e2], fun i hi => ?_⟩
  rw [e1]
  rw [e2] at hi
  by_cases hc : i = k % 16
  · subst hc
    rw [pk_us, hx]
    congr 1
    omega
  · rw [pk_un hc]
    exact h.2.2 i (by omega)
/-- the word that fills the block -/
theorem DW.full {w : Nat → Int32} {k : Nat} {v iw v' : Nat → Int32} {xo : Int32} (h : DW w k v iw xo) (hk : k % 16 = 15) {x : Int32} (hx : x = w k) (hv : v8 v' = cmp8 (upd iw 15 x) (v8 v)) (iw' : Nat → Int32) : DW w (k + 1) v' iw' (nI 0) := by
  have e1 : (k + 1) / 16 = k / 16 + 1 := by omega
  have e2 : (k + 1) % 16 = 0 := by omega
  refine ⟨?_, by rw [e2], fun i hi => absurd hi (by omega)⟩
  rw [e1, hv, h.1]
  refine cmp8_congr (fun i hi => ?_) _
  by_cases hc : i = 15
  · subst hc
    rw [pk_us, hx]
    congr 1
    omega
  · rw [pk_un hc]
    exact h.2.2 i (by omega)
/-- sixteen words stand, and the block is worked out -/
theorem DW.done {w : Nat → Int32} {b : Nat} {v iw v' : Nat → Int32} (h : v8 v = chn w b) (hi : ∀ i, i < 16 → iw i = w (16 * b + i)) (hv : v8 v' = cmp8 iw (v8 v)) : v8 v' = chn w (b + 1) := by
  rw [hv, h]
  exact cmp8_congr hi _
end
section
/-! THE FRAME OF EVERY CONTRACT: classes, statics, worlds; entry, rows, calls, ends in one form -/
set_option maxRecDepth 100000
abbrev vwCl : List vw_C := [(RX0, TX0, 5), (RX2, TX2, 8), (RX3, TX3, 8)]
/-- the numbers of the classes and their slots; the classes byte[] and int[]; the addresses of SM3Digest.T and CryptoServicePurpose.ANY -/
abbrev GG : Type := va_G × (ClassId × ClassId) × (Nat × Nat)
abbrev xPW : MethodName := ⟨"GeneralDigest", "processWord", "([BI)V"⟩
abbrev xPL : MethodName := ⟨"GeneralDigest", "processLength", "(J)V"⟩
abbrev xPB : MethodName := ⟨"GeneralDigest", "processBlock", "()V"⟩
abbrev xU3 : MethodName := ⟨"Digest", "update", "([BII)V"⟩
abbrev xU1 : MethodName := ⟨"Digest", "update", "(B)V"⟩
abbrev xDF : MethodName := ⟨"Digest", "doFinal", "([BI)I"⟩
abbrev xRS : MethodName := ⟨"Digest", "reset", "()V"⟩
def KK (G : GG) (U : State) : Prop := va_K G.1 vwCl [(G.2.1.1, .byte), (G.2.1.2, .int)] U ∧ (va_Nw (.declares xPW) U ∧ va_Nw (.declares xPL) U ∧ va_Nw (.declares xPB) U) ∧ (va_Fw "SM3Digest" xU3 yX1_update U ∧ va_Fw "SM3Digest" xU1 yX1_update_2 U ∧ va_Fw "SM3Digest" xDF yX2_doFinal U ∧ va_Fw "SM3Digest" xRS yX2_reset U)
theorem nw_moved {x : MethodName} {u U : State} (hvm : u.vm.Alike U.vm) (h : va_Nw (.declares x) u) : va_Nw (.declares x) U := va_tabs rfl (rfl : (u.setVm U.vm).vm = U.vm) (by rw [Cond.declares_setVm hvm]; exact h)
theorem KK.moved {G : GG} {u U : State} (hvm : u.vm.Alike U.vm) (h : KK G u) : KK G U :=
  ⟨va_K.moved hvm h.1, ⟨nw_moved hvm h.2.1.1, nw_moved hvm h.2.1.2.1, nw_moved hvm h.2.1.2.2⟩, va_Fw.moved (by decide +kernel) hvm h.2.2.1, va_Fw.moved (by decide +kernel) hvm h.2.2.2.1, va_Fw.moved (by decide +kernel) hvm h.2.2.2.2.1, va_Fw.moved (by decide +kernel) hvm h.2.2.2.2.2⟩
def ST (G : GG) (A : Nat → Prop) (U : State) (H : Heap) : Prop := va_Z "SM3Digest" "T" "[I" (.ref G.2.2.1) A U H ∧ va_T .int G.2.2.1 64 (fun j => .int (sT j)) A U H ∧ va_Z "CryptoServicePurpose" "ANY" "LCryptoServicePurpose;" (.ref G.2.2.2) A U H
theorem ST.moved {G : GG} {A : Nat → Prop} {u U : State} {H : Heap} (hvm : u.vm.Alike U.vm) (h : ST G A u H) : ST G A U H := ⟨h.1.moved hvm, h.2.1.moved hvm, h.2.2.moved hvm⟩
theorem ST.kept {G : GG} {A : Nat → Prop} {U : State} {H H1 : Heap} (h : ST G A U H) (hq : ∀ a : Nat, a < H.size → ¬ A a → H1[a]? = H[a]?) : ST G A U H1 := ⟨h.1.kept hq, h.2.1.kept hq, h.2.2.kept hq⟩
theorem ST.narrow {G : GG} {A B : Nat → Prop} {U : State} {H : Heap} (h : ST G A U H) (hAB : ∀ q, B q → A q) : ST G B U H := ⟨h.1.narrow hAB, h.2.1.narrow hAB, h.2.2.narrow hAB⟩
/-- what holds all through a method -/
def CX (G : GG) (A : Nat → Prop) (s : State) (args : Array Value) (m : MethodId) (own : String) : Prop := (∀ q, s.heap.size ≤ q → A q) ∧ KK G s ∧ ST G A s s.heap ∧ s.vm.findClass own = some m.cls ∧ ∀ w ∈ lw_all, w.before args s = true
/-- the heap now: the cells ws, apart, and nothing else of the old has changed -/
def HS (G : GG) (A : Nat → Prop) (s : State) (H : Heap) (locs : List Loc) (ws : va_W) : Prop := va_P G.1 vwCl ws H ∧ va_D A ws ∧ va_S A s.heap H locs
abbrev oX (a : Nat) (fs : List Value) : Nat × va_E := (a, .inr (0, fs))
abbrev oD (a : Nat) (fs : List Value) : Nat × va_E := (a, .inr (1, fs))
abbrev oM (a : Nat) (fs : List Value) : Nat × va_E := (a, .inr (2, fs))
abbrev aI (G : GG) (a n : Nat) (f : Nat → Int32) : Nat × va_E := (a, .inl (G.2.1.2, n, .inl f))
abbrev aB (G : GG) (a n : Nat) (f : Nat → Int32) : Nat × va_E := (a, .inl (G.2.1.1, n, .inl f))
theorem fm_of {α : Type} {ws : List α} : ∀ {is : List Nat} {ws' : List α}, is.map (fun i => ws[i]?) = ws'.map some → is.filterMap (fun i => ws[i]?) = ws'
  | [], [], _ => rfl
  | [], _ :: _, h => by cases h
  | _ :: _, [], h => by cases h
  | i :: is, a :: l, h => by
    simp only [List.map_cons, List.cons.injEq] at h
    rw [List.filterMap_cons, h.1]
    exact congrArg (a :: ·) (fm_of h.2)
theorem HS.sub {G : GG} {A : Nat → Prop} {s : State} {H : Heap} {locs : List Loc} {ws ws' : va_W} (h : HS G A s H locs ws) (is : List Nat) (hn : va_nd is = true) (hs : is.map (fun i => ws[i]?) = ws'.map some) : HS G A s H locs ws' := ⟨h.1.sub is (fm_of hs), h.2.1.sub is hn hs, h.2.2⟩
def WP (G : GG) (ws : va_W) (sz : Nat) (U : State) : Prop := U.heap.size = sz ∧ va_P G.1 vwCl ws U.heap ∧ KK G U ∧ va_D (fun _ => True) ws ∧ ST G (va_A ws sz) U U.heap
abbrev WB (G : GG) {S : Type} (A : Nat → Prop) (wsf : S → va_W) (u : S) (t : State) : Prop := va_P G.1 vwCl (wsf u) t.heap ∧ va_D A (wsf u)
abbrev rmc (fr lo mc ms : Nat) : Room := { frames := fr, cells := mc, slots := ms, locals := lo }
/-- the contract of a method without an answer: from the world w0 to a world wsf u with post u -/
def CtV (l : Launch) (G : GG) (y : MethodName) (b : ByteArray) (L fr lo mc ms : Nat) (av : List Value) (w0 : va_W) (sz : Nat) {S : Type} (post : S → Prop) (wsf : S → va_W) : Prop :=
  Met l y (ws_ y b L none) (rmc fr lo mc ms) (va_Pc av (WP G w0 sz)) (va_Qv post (WB G (va_A w0 sz) wsf) (va_A w0 sz)) mc ms (va_A w0 sz)
/-- of a method that answers an int (or boolean) -/
def CtI (l : Launch) (G : GG) (y : MethodName) (b : ByteArray) (L : Nat) (rt : FieldType) (fr lo mc ms : Nat) (av : List Value) (w0 : va_W) (sz : Nat) {S : Type} (post : Int32 → S → Prop) (wsf : S → va_W) : Prop :=
  Met l y (ws_ y b L (some rt)) (rmc fr lo mc ms) (va_Pc av (WP G w0 sz)) (va_Qi post (WB G (va_A w0 sz) wsf) (va_A w0 sz)) mc ms (va_A w0 sz)
/-- of a method that answers an int and leaves the heap as it was -/
def CtP (l : Launch) (G : GG) (y : MethodName) (b : ByteArray) (L : Nat) (rt : FieldType) (fr lo : Nat) (av : List Value) (w0 : va_W) (sz : Nat) (post : Int32 → Prop) : Prop :=
  Met l y (ws_ y b L (some rt)) (rmc fr lo 0 0) (va_Pc av (WP G w0 sz)) (vp_Si post) 0 0 (fun _ => False)
theorem entV {l : Launch} {G : GG} {y : MethodName} {b : ByteArray} {L fr lo mc ms : Nat} {av : List Value} {w0 : va_W} {sz : Nat} {S : Type} {post : S → Prop} {wsf : S → va_W} (own : String) (hy : y.cls = own) (hp : plainName y.cls = true) (hav : (lg_sl av).length ≤ L)
    (body : ∀ (p : Program) (e : Env) (s : State) (m : MethodId) (below : List Frame) (meth : Method) (c : Code) (A : Nat → Prop) (ls : Array Slot), p.tables.exec = Jvm.exec → c.code = b → meth.sig.returnType = none → meth.locks = false → c.maxLocals = L → meth.name = y.name → s.heap.size = sz → CX G A s av.toArray m own → HS G A s s.heap [] w0 → lv_has ls L (lv_args 0 av) →
      W p l e (rmc fr lo mc ms) s m av.toArray below meth c s.heap [] 0 0 (MQ below (va_Qv post (WB G A wsf) A) av.toArray s mc ms A) (F0 m 0 ls [])) : CtV l G y b L fr lo mc ms av w0 sz post wsf := by
  refine Met.ofW (cc := b) (maxL := L) (ret := none) hp rfl ?_
  intro p e s m args below meth c s₁ B hml hv
  obtain ⟨rfl, hsz, hP, hK, hD0, hT⟩ := hv
  have hts := atoms_spec (ws := ws_ y b L none) B.pre
  have hts : ∀ w ∈ lw_all, w.before _ s = true := fun w h => hts w (List.mem_cons_of_mem _ h)
  have hown : s.vm.findClass own = some m.cls := by rw [← hy]; exact findClass_of_methodNamed B.named
  have hl := lv_entry av (n := L) hav
  rw [lg_entry_eq]
  exact body p e s m below meth c (va_A w0 sz) _ B.exec B.bytes B.returns B.notSynchronized hml (name_of_methodNamed B.named B.method).1 hsz ⟨fun q h => Or.inr (by rw [← hsz]; exact h), hK, hT, hown, hts⟩ ⟨hP, hD0.self, va_S.rf⟩ hl
theorem entI {l : Launch} {G : GG} {y : MethodName} {b : ByteArray} {L : Nat} {rt : FieldType} {fr lo mc ms : Nat} {av : List Value} {w0 : va_W} {sz : Nat} {S : Type} {post : Int32 → S → Prop} {wsf : S → va_W} (own : String) (hy : y.cls = own) (hp : plainName y.cls = true) (hav : (lg_sl av).length ≤ L)
    (body : ∀ (p : Program) (e : Env) (s : State) (m : MethodId) (below : List Frame) (meth : Method) (c : Code) (A : Nat → Prop) (ls : Array Slot), p.tables.exec = Jvm.exec → c.code = b → meth.sig.returnType = some rt → meth.locks = false → c.maxLocals = L → s.heap.size = sz → CX G A s av.toArray m own → HS G A s s.heap [] w0 → lv_has ls L (lv_args 0 av) →
      W p l e (rmc fr lo mc ms) s m av.toArray below meth c s.heap [] 0 0 (MQ below (va_Qi post (WB G A wsf) A) av.toArray s mc ms A) (F0 m 0 ls [])) : CtI l G y b L rt fr lo mc ms av w0 sz post wsf := by
  refine Met.ofW (cc := b) (maxL := L) (ret := some rt) hp rfl ?_
  intro p e s m args below meth c s₁ B hml hv
  obtain ⟨rfl, hsz, hP, hK, hD0, hT⟩ := hv
  have hts := atoms_spec (ws := ws_ y b L (some rt)) B.pre
  have hts : ∀ w ∈ lw_all, w.before _ s = true := fun w h => hts w (List.mem_cons_of_mem _ h)
  have hown : s.vm.findClass own = some m.cls := by rw [← hy]; exact findClass_of_methodNamed B.named
  have hl := lv_entry av (n := L) hav
  rw [lg_entry_eq]
  exact body p e s m below meth c (va_A w0 sz) _ B.exec B.bytes B.returns B.notSynchronized hml hsz ⟨fun q h => Or.inr (by rw [← hsz]; exact h), hK, hT, hown, hts⟩ ⟨hP, hD0.self, va_S.rf⟩ hl
theorem entP {l : Launch} {G : GG} {y : MethodName} {b : ByteArray} {L : Nat} {rt : FieldType} {fr lo : Nat} {av : List Value} {w0 : va_W} {sz : Nat} {post : Int32 → Prop} (own : String) (hy : y.cls = own) (hp : plainName y.cls = true) (hav : (lg_sl av).length ≤ L)
    (body : ∀ (p : Program) (e : Env) (s : State) (m : MethodId) (below : List Frame) (meth : Method) (c : Code) (A : Nat → Prop) (ls : Array Slot), p.tables.exec = Jvm.exec → c.code = b → meth.sig.returnType = some rt → meth.locks = false → c.maxLocals = L → s.heap.size = sz → CX G A s av.toArray m own → HS G A s s.heap [] w0 → lv_has ls L (lv_args 0 av) →
      W p l e (rmc fr lo 0 0) s m av.toArray below meth c s.heap [] 0 0 (MQ below (vp_Si post) av.toArray s 0 0 (fun _ => False)) (F0 m 0 ls [])) : CtP l G y b L rt fr lo av w0 sz post := by
  refine Met.ofW (cc := b) (maxL := L) (ret := some rt) hp rfl ?_
  intro p e s m args below meth c s₁ B hml hv
  obtain ⟨rfl, hsz, hP, hK, hD0, hT⟩ := hv
  have hts := atoms_spec (ws := ws_ y b L (some rt)) B.pre
  have hts : ∀ w ∈ lw_all, w.before _ s = true := fun w h => hts w (List.mem_cons_of_mem _ h)
  have hown : s.vm.findClass own = some m.cls := by rw [← hy]; exact findClass_of_methodNamed B.named
  have hl := lv_entry av (n := L) hav
  rw [lg_entry_eq]
  exact body p e s m below meth c (va_A w0 sz) _ B.exec B.bytes B.returns B.notSynchronized hml hsz ⟨fun q h => Or.inr (by rw [← hsz]; exact h), hK, hT, hown, hts⟩ ⟨hP, hD0.self, va_S.rf⟩ hl
section ROWS
variable {p : Program} {l : Launch} {e : Env} {R : Room} {s : State} {m : MethodId} {args : Array Value} {below : List Frame} {meth : Method} {c : Code} {H : Heap} {locs : List Loc} {cells slots : Nat} {Q : State → Prop}
variable {cc : ByteArray} {pc nL : Nat} {ls : Array Slot} {rest st0 : List Value} {G : GG} {A : Nat → Prop} {ws : va_W} {own : String} {a : Nat}
theorem tp_i {x y : Int32} (h : x = y) (k : W p l e R s m args below meth c H locs cells slots Q (F0 m pc ls (.int y :: rest))) : W p l e R s m args below meth c H locs cells slots Q (F0 m pc ls (.int x :: rest)) := by rw [h]; exact k
theorem tp_l {x y : Int64} (h : x = y) (k : W p l e R s m args below meth c H locs cells slots Q (F0 m pc ls (.long y :: rest))) : W p l e R s m args below meth c H locs cells slots Q (F0 m pc ls (.long x :: rest)) := by rw [h]; exact k
theorem retV (hx : p.tables.exec = Jvm.exec) (hb : c.code = cc) (hr : meth.sig.returnType = none) (hk : meth.locks = false) {S : Type} {post : S → Prop} {wsf : S → va_W} (u : S) (h : HS G A s H locs (wsf u)) (hp : post u) (hdg : decode cc pc = .ok (.return_, 1)) :
    W p l e R s m args below meth c H locs cells slots (MQ below (va_Qv post (WB G A wsf) A) args s cells slots A) (F0 m pc ls []) :=
  W.vret hx hb hr (fun t ht _ => ⟨⟨u, rfl, hp, by rw [ht]; exact h.1, h.2.1⟩, h.2.2.F ht⟩) h.2.2.2.2 hdg hk
theorem retI (hx : p.tables.exec = Jvm.exec) (hb : c.code = cc) {rt : FieldType} (hr : meth.sig.returnType = some rt) (hk : meth.locks = false) {v : Int32} (hn : narrow rt (.int v) = .int v) {S : Type} {post : Int32 → S → Prop} {wsf : S → va_W} (u : S) (h : HS G A s H locs (wsf u)) (hp : post v u) (hdg : decode cc pc = .ok (.ireturn, 1)) :
    W p l e R s m args below meth c H locs cells slots (MQ below (va_Qi post (WB G A wsf) A) args s cells slots A) (F0 m pc ls [.int v]) :=
  W.zret hx hb hr hn (fun t ht _ => ⟨⟨v, u, rfl, hp, by rw [ht]; exact h.1, h.2.1⟩, h.2.2.F ht⟩) h.2.2.2.2 hdg hk
theorem retP (hx : p.tables.exec = Jvm.exec) (hb : c.code = cc) {rt : FieldType} (hr : meth.sig.returnType = some rt) (hk : meth.locks = false) {v : Int32} (hn : narrow rt (.int v) = .int v) {post : Int32 → Prop} (hp : post v) (hdg : decode cc pc = .ok (.ireturn, 1)) :
    W p l e R s m args below meth c s.heap [] 0 0 (MQ below (vp_Si post) args s 0 0 (fun _ => False)) (F0 m pc ls [.int v]) :=
  W.zret hx hb hr hn (fun t ht _ => ⟨v, rfl, hp, ht⟩) (fun q h => by cases h) hdg hk
/-! fields -/
theorem g_get (hx : p.tables.exec = Jvm.exec) (hb : c.code = cc) (C : CX G A s args m own) (h : HS G A s H locs ws) {Cn : String} {T : u_T} {N ci index : Nat} {ref : String} (hin : ∀ w ∈ u_ws Cn T N, w ∈ lw_all) (hc : vwCl[ci]? = some (Cn, T, N)) (q0 : Nat) {fs : List Value} (he : ws[q0]? = some (a, .inr (ci, fs))) (k : Nat) (hk : k < N) (hlink : Cond.fieldLink own index ref (T k).2.1 (T k).2.2.1 ∈ lw_all) (href : (T k).1 = ref) {v : Value} (hv : fs[k]? = some v) (hdg : decode cc pc = .ok (.getfield index, 3))
    (kk : W p l e R s m args below meth c H locs cells slots Q (F0 m (pc + 3) ls (v :: rest))) : W p l e R s m args below meth c H locs cells slots Q (F0 m pc ls (.ref a :: rest)) :=
  va_get (D := G.1) hx hb C.2.2.2.2 hin C.2.2.2.1 C.2.1.1 h.1 q0 he hc k hk (C.2.2.2.2 _ hlink) (fun x hx => by rw [← href]; exact hx) hv hdg kk
theorem g_put (hx : p.tables.exec = Jvm.exec) (hb : c.code = cc) (C : CX G A s args m own) (h : HS G A s H locs ws) {Cn : String} {T : u_T} {N ci index : Nat} {ref : String} (hin : ∀ w ∈ u_ws Cn T N, w ∈ lw_all) (ty0 : Nat → FieldType) (hty : ∀ k, k < N → parseFieldDescriptor (T k).2.2.1 = some (ty0 k)) (hnm : ∀ a, a < N → ∀ b, b < N → a ≠ b → (T a).2.1 ≠ (T b).2.1) (hc : vwCl[ci]? = some (Cn, T, N)) (q0 : Nat) {fs : List Value} (he : ws[q0]? = some (a, .inr (ci, fs))) (k : Nat) (hk : k < N) (hlink : Cond.fieldLink own index ref (T k).2.1 (T k).2.2.1 ∈ lw_all) (href : (T k).1 = ref) (hfin : (T k).2.2.2 = false) {v : Value} (hn : narrow (ty0 k) v = v) (hfit : fits (ty0 k) v = true) (hl : k < fs.length) (hdg : decode cc pc = .ok (.putfield index, 3))
    (kk : ∀ (H1 : Heap) (locs1 : List Loc), HS G A s H1 locs1 (ws.set q0 (a, .inr (ci, fs.set k v))) → W p l e R s m args below meth c H1 locs1 cells slots Q (F0 m (pc + 3) ls rest)) : W p l e R s m args below meth c H locs cells slots Q (F0 m pc ls (v :: .ref a :: rest)) :=
  va_put (D := G.1) hx hb C.2.2.2.2 hin ty0 hty hnm C.2.2.2.1 C.2.1.1 h.1 h.2.1 h.2.2 q0 he hc k hk (C.2.2.2.2 _ hlink) (fun x hx => by rw [← href]; exact hx) hfin (hty k hk) hn hfit hl hdg (fun H1 locs1 h1 h2 h3 => kk H1 locs1 ⟨h1, h2, h3⟩)
theorem g_putF (hx : p.tables.exec = Jvm.exec) (hb : c.code = cc) (C : CX G A s args m own) (h : HS G A s H locs ws) (hin2 : meth.name = "<init>") {Cn : String} {T : u_T} {N ci index : Nat} {ref : String} (hin : ∀ w ∈ u_ws Cn T N, w ∈ lw_all) (ty0 : Nat → FieldType) (hty : ∀ k, k < N → parseFieldDescriptor (T k).2.2.1 = some (ty0 k)) (hnm : ∀ a, a < N → ∀ b, b < N → a ≠ b → (T a).2.1 ≠ (T b).2.1) (hc : vwCl[ci]? = some (Cn, T, N)) (q0 : Nat) {fs : List Value} (he : ws[q0]? = some (a, .inr (ci, fs))) (k : Nat) (hk : k < N) (hlink : Cond.fieldLink own index ref (T k).2.1 (T k).2.2.1 ∈ lw_all) (href : (T k).1 = ref) (hfin : (T k).2.2.2 = true) (hdecl : (T k).1 = own) {v : Value} (hn : narrow (ty0 k) v = v) (hfit : fits (ty0 k) v = true) (hl : k < fs.length) (hdg : decode cc pc = .ok (.putfield index, 3))
    (kk : ∀ (H1 : Heap) (locs1 : List Loc), HS G A s H1 locs1 (ws.set q0 (a, .inr (ci, fs.set k v))) → W p l e R s m args below meth c H1 locs1 cells slots Q (F0 m (pc + 3) ls rest)) : W p l e R s m args below meth c H locs cells slots Q (F0 m pc ls (v :: .ref a :: rest)) :=
  va_putF (D := G.1) hx hb C.2.2.2.2 hin ty0 hty hnm C.2.2.2.1 C.2.1.1 h.1 h.2.1 h.2.2 q0 he hc k hk (C.2.2.2.2 _ hlink) (fun x hx => by rw [← href]; exact hx) hfin hin2 hdecl (hty k hk) hn hfit hl hdg (fun H1 locs1 h1 h2 h3 => kk H1 locs1 ⟨h1, h2, h3⟩)
/-! arrays -/
theorem g_ild (hx : p.tables.exec = Jvm.exec) (hb : c.code = cc) (C : CX G A s args m own) (h : HS G A s H locs ws) (q0 : Nat) {n j : Nat} {f : Nat → Int32} (he : ws[q0]? = some (aI G a n f)) (hj : j < n) (hn : n < 2 ^ 31) (hdg : decode cc pc = .ok (.iaload, 1))
    (kk : W p l e R s m args below meth c H locs cells slots Q (F0 m (pc + 1) ls (.int (f j) :: rest))) : W p l e R s m args below meth c H locs cells slots Q (F0 m pc ls (.int (nI j) :: .ref a :: rest)) :=
  va_iald hx hb C.2.1.1 h.1 q0 1 he rfl (vp_in_nI hj hn) hdg (by rw [nI_clamp (Nat.lt_trans hj hn)]; exact kk)
theorem g_bld (hx : p.tables.exec = Jvm.exec) (hb : c.code = cc) (C : CX G A s args m own) (h : HS G A s H locs ws) (q0 : Nat) {n j : Nat} {f : Nat → Int32} (he : ws[q0]? = some (aB G a n f)) (hj : j < n) (hn : n < 2 ^ 31) (hdg : decode cc pc = .ok (.baload, 1))
    (kk : W p l e R s m args below meth c H locs cells slots Q (F0 m (pc + 1) ls (.int (f j) :: rest))) : W p l e R s m args below meth c H locs cells slots Q (F0 m pc ls (.int (nI j) :: .ref a :: rest)) :=
  va_bald hx hb C.2.1.1 h.1 q0 0 he rfl (vp_in_nI hj hn) hdg (by rw [nI_clamp (Nat.lt_trans hj hn)]; exact kk)
theorem g_ist (hx : p.tables.exec = Jvm.exec) (hb : c.code = cc) (C : CX G A s args m own) (h : HS G A s H locs ws) (q0 : Nat) {n j : Nat} {f : Nat → Int32} {x : Int32} (he : ws[q0]? = some (aI G a n f)) (hj : j < n) (hn : n < 2 ^ 31) (hdg : decode cc pc = .ok (.iastore, 1))
    (kk : ∀ (H1 : Heap) (locs1 : List Loc), HS G A s H1 locs1 (ws.set q0 (aI G a n (upd f j x))) → W p l e R s m args below meth c H1 locs1 cells slots Q (F0 m (pc + 1) ls rest)) : W p l e R s m args below meth c H locs cells slots Q (F0 m pc ls (.int x :: .int (nI j) :: .ref a :: rest)) :=
  va_iast hx hb C.2.1.1 h.1 h.2.1 h.2.2 q0 1 he rfl (vp_in_nI hj hn) hdg (fun H1 locs1 h1 h2 h3 => kk H1 locs1 (by rw [nI_clamp (Nat.lt_trans hj hn)] at h1 h2; exact ⟨h1, h2, h3⟩))
theorem g_bst (hx : p.tables.exec = Jvm.exec) (hb : c.code = cc) (C : CX G A s args m own) (h : HS G A s H locs ws) (q0 : Nat) {n j : Nat} {f : Nat → Int32} {x v : Int32} (he : ws[q0]? = some (aB G a n f)) (hj : j < n) (hn : n < 2 ^ 31) (hv : vp_nar .byte x = v) (hdg : decode cc pc = .ok (.bastore, 1))
    (kk : ∀ (H1 : Heap) (locs1 : List Loc), HS G A s H1 locs1 (ws.set q0 (aB G a n (upd f j v))) → W p l e R s m args below meth c H1 locs1 cells slots Q (F0 m (pc + 1) ls rest)) : W p l e R s m args below meth c H locs cells slots Q (F0 m pc ls (.int x :: .int (nI j) :: .ref a :: rest)) :=
  va_bast hx hb C.2.1.1 h.1 h.2.1 h.2.2 q0 0 he rfl (vp_in_nI hj hn) hdg (fun H1 locs1 h1 h2 h3 => kk H1 locs1 (by rw [nI_clamp (Nat.lt_trans hj hn), hv] at h1 h2; exact ⟨h1, h2, h3⟩))
theorem g_ilen (hx : p.tables.exec = Jvm.exec) (hb : c.code = cc) (C : CX G A s args m own) (h : HS G A s H locs ws) (q0 : Nat) {n : Nat} {f : Nat → Int32} (he : ws[q0]? = some (aI G a n f)) (hdg : decode cc pc = .ok (.arraylength, 1))
    (kk : W p l e R s m args below meth c H locs cells slots Q (F0 m (pc + 1) ls (.int (nI n) :: rest))) : W p l e R s m args below meth c H locs cells slots Q (F0 m pc ls (.ref a :: rest)) :=
  va_alen (v := nI n) hx hb C.2.1.1 h.1 q0 1 he rfl rfl hdg kk
theorem g_blen (hx : p.tables.exec = Jvm.exec) (hb : c.code = cc) (C : CX G A s args m own) (h : HS G A s H locs ws) (q0 : Nat) {n : Nat} {f : Nat → Int32} (he : ws[q0]? = some (aB G a n f)) (hdg : decode cc pc = .ok (.arraylength, 1))
    (kk : W p l e R s m args below meth c H locs cells slots Q (F0 m (pc + 1) ls (.int (nI n) :: rest))) : W p l e R s m args below meth c H locs cells slots Q (F0 m pc ls (.ref a :: rest)) :=
  va_alen (v := nI n) hx hb C.2.1.1 h.1 q0 0 he rfl rfl hdg kk
theorem k_same {U : State} {cA cB : ClassId} {ty : FieldType} {D : va_G} {cl : List vw_C} {tys : List (ClassId × FieldType)} {i j : Nat} (hK : va_K D cl tys U) (hi : tys[i]? = some (cA, ty)) (hj : tys[j]? = some (cB, ty)) (ht : ty = .int ∨ ty = .byte) : cA = cB := by
  have h1 := (hK.2 i _ hi).2
  have h2 := (hK.2 j _ hj).2
  rcases ht with rfl | rfl
  · exact Option.some.inj (Eq.trans (Eq.symm (show U.vm.findClass ("[" ++ FieldType.int.toString) = some cA from h1)) h2)
  · exact Option.some.inj (Eq.trans (Eq.symm (show U.vm.findClass ("[" ++ FieldType.byte.toString) = some cA from h1)) h2)
theorem g_newI (hx : p.tables.exec = Jvm.exec) (hb : c.code = cc) (C : CX G A s args m own) (h : HS G A s H locs ws) (n : Nat) (hn : n < 2 ^ 26) (hcells : cells + 1 ≤ R.cells) (hslots : slots + n ≤ R.slots) (hdg : decode cc pc = .ok (.newarray .int, 2))
    (kk : ∀ (q : Nat) (H1 : Heap), HS G A s H1 locs (ws ++ [aI G q n (fun _ => 0)]) → W p l e R s m args below meth c H1 locs (cells + 1) (slots + n) Q (F0 m (pc + 2) ls (.ref q :: rest))) : W p l e R s m args below meth c H locs cells slots Q (F0 m pc ls (.int (nI n) :: rest)) := by
  have h31 : n < 2 ^ 31 := Nat.lt_trans hn (by decide)
  have hcb : n * componentBytes .int ≤ 536870912 := Nat.le_trans (Nat.mul_le_mul (Nat.le_of_lt hn) (show componentBytes .int ≤ 8 from by decide)) (by decide)
  refine va_newa (atype := .int) (ty := .int) (a0 := (n, .inl (fun _ => 0))) (N' := n) hx hb (C.2.2.2.2 _ q86) rfl C.2.1.1 h.1 h.2.1 h.2.2 C.1 (fun _ => rfl) (nI_pos h31) (nI_clamp h31) hcb hcells hslots hdg (fun q cA H1 hK hP hD hS => ?_)
  have e : cA = G.2.1.2 := k_same (i := 2) (j := 1) hK rfl rfl (Or.inl rfl)
  subst e
  exact kk q H1 ⟨hP, hD, hS⟩
theorem g_newB (hx : p.tables.exec = Jvm.exec) (hb : c.code = cc) (C : CX G A s args m own) (h : HS G A s H locs ws) (n : Nat) (hn : n < 2 ^ 26) (hcells : cells + 1 ≤ R.cells) (hslots : slots + n ≤ R.slots) (hdg : decode cc pc = .ok (.newarray .byte, 2))
    (kk : ∀ (q : Nat) (H1 : Heap), HS G A s H1 locs (ws ++ [aB G q n (fun _ => 0)]) → W p l e R s m args below meth c H1 locs (cells + 1) (slots + n) Q (F0 m (pc + 2) ls (.ref q :: rest))) : W p l e R s m args below meth c H locs cells slots Q (F0 m pc ls (.int (nI n) :: rest)) := by
  have h31 : n < 2 ^ 31 := Nat.lt_trans hn (by decide)
  have hcb : n * componentBytes .byte ≤ 536870912 := Nat.le_trans (Nat.mul_le_mul (Nat.le_of_lt hn) (show componentBytes .byte ≤ 8 from by decide)) (by decide)
  refine va_newa (atype := .byte) (ty := .byte) (a0 := (n, .inl (fun _ => 0))) (N' := n) hx hb (C.2.2.2.2 _ q85) rfl C.2.1.1 h.1 h.2.1 h.2.2 C.1 (fun _ => rfl) (nI_pos h31) (nI_clamp h31) hcb hcells hslots hdg (fun q cA H1 hK hP hD hS => ?_)
  have e : cA = G.2.1.1 := k_same (i := 2) (j := 0) hK rfl rfl (Or.inr rfl)
  subst e
  exact kk q H1 ⟨hP, hD, hS⟩
theorem g_new (hx : p.tables.exec = Jvm.exec) (hb : c.code = cc) (C : CX G A s args m own) (h : HS G A s H locs ws) {Cn : String} {T : u_T} {N ci index : Nat} (hin : ∀ w ∈ u_ws Cn T N, w ∈ lw_all) (ty : Nat → FieldType) (hty : ∀ k, k < N → parseFieldDescriptor (T k).2.2.1 = some (ty k)) (hc : vwCl[ci]? = some (Cn, T, N)) (hcl : Cond.classLink own index Cn ∈ lw_all) (hinst : Cond.instantiable Cn N ∈ lw_all) (hini : Cond.initialized Cn ∈ lw_all) {fs : List Value} (hfs : ∀ j, j < N → defaultValue (ty j) = vp_V fs j) (hcells : cells + 1 ≤ R.cells) (hslots : slots + N ≤ R.slots) (hdg : decode cc pc = .ok (.new index, 3))
    (kk : ∀ (q : Nat) (H1 : Heap), HS G A s H1 locs (ws ++ [(q, .inr (ci, fs))]) → W p l e R s m args below meth c H1 locs (cells + 1) (slots + N) Q (F0 m (pc + 3) ls (.ref q :: rest))) : W p l e R s m args below meth c H locs cells slots Q (F0 m pc ls rest) :=
  va_new hx hb C.2.2.2.2 hin ty hty C.2.2.2.1 (C.2.2.2.2 _ hcl) (C.2.2.2.2 _ hinst) (C.2.2.2.2 _ hini) C.2.1.1 h.1 h.2.1 h.2.2 C.1 hc hfs hcells hslots hdg (fun q H1 h1 h2 h3 => kk q H1 ⟨h1, h2, h3⟩)
/-! the statics -/
theorem g_T (hx : p.tables.exec = Jvm.exec) (hb : c.code = cc) (C : CX G A s args m own) (h : HS G A s H locs ws) {index : Nat} {ref : String} (hlink : Cond.fieldLink own index ref "T" "[I" ∈ lw_all) (href : "SM3Digest" = ref) (hdg : decode cc pc = .ok (.getstatic index, 3))
    (kk : W p l e R s m args below meth c H locs cells slots Q (F0 m (pc + 3) ls (.ref G.2.2.1 :: rest))) : W p l e R s m args below meth c H locs cells slots Q (F0 m pc ls rest) :=
  va_gets hx hb C.2.2.1.1 h.2.2 C.2.2.2.1 (C.2.2.2.2 _ hlink) (fun x hx => by rw [← href]; exact hx) hdg kk
theorem g_any (hx : p.tables.exec = Jvm.exec) (hb : c.code = cc) (C : CX G A s args m own) (h : HS G A s H locs ws) {index : Nat} {ref : String} (hlink : Cond.fieldLink own index ref "ANY" "LCryptoServicePurpose;" ∈ lw_all) (href : "CryptoServicePurpose" = ref) (hdg : decode cc pc = .ok (.getstatic index, 3))
    (kk : W p l e R s m args below meth c H locs cells slots Q (F0 m (pc + 3) ls (.ref G.2.2.2 :: rest))) : W p l e R s m args below meth c H locs cells slots Q (F0 m pc ls rest) :=
  va_gets hx hb C.2.2.1.2.2 h.2.2 C.2.2.2.1 (C.2.2.2.2 _ hlink) (fun x hx => by rw [← href]; exact hx) hdg kk
theorem g_tld (hx : p.tables.exec = Jvm.exec) (hb : c.code = cc) (C : CX G A s args m own) (h : HS G A s H locs ws) {j : Nat} (hj : j < 64) (hdg : decode cc pc = .ok (.iaload, 1))
    (kk : W p l e R s m args below meth c H locs cells slots Q (F0 m (pc + 1) ls (.int (sT j) :: rest))) : W p l e R s m args below meth c H locs cells slots Q (F0 m pc ls (.int (nI j) :: .ref G.2.2.1 :: rest)) :=
  va_ti hx hb C.2.2.1.2.1 h.2.2 (vp_in_nI hj (by decide)) (by rw [nI_clamp (Nat.lt_trans hj (by decide))]) hdg kk
end ROWS
end
section
/-! CALLS: one row a kind: the callee's cells are cut out, what comes back stands beside the rest -/
set_option maxRecDepth 100000
section CALLS
variable {p : Program} {l : Launch} {e : Env} {R : Room} {s : State} {m : MethodId} {args : Array Value} {below : List Frame} {meth : Method} {c : Code} {H : Heap} {locs : List Loc} {cells slots : Nat} {Q : State → Prop}
variable {cc : ByteArray} {pc nL : Nat} {ls : Array Slot} {rest st0 : List Value} {G : GG} {A : Nat → Prop} {ws wc wr : va_W} {own : String} {a mc ms : Nat}
theorem preS (C : CX G A s args m own) (h : HS G A s H locs ws) (isC : List Nat) (hn : va_nd isC = true) (hC : isC.map (fun i => ws[i]?) = wc.map some) (As : List Value) : PreS s H (va_Pc As (WP G wc H.size)) As := by
  have hF := va_free h.2.1 h.2.2 C.1 isC hC
  refine ⟨?_, ?_⟩
  · intro a U g mk q
    obtain ⟨q0, q1, qP, qK, qD, qT⟩ := q
    exact ⟨q0, q1, qP, KK.moved (u := U) (U := U.calling g mk a) (Vm.Alike.refl U.vm) qK, qD, ST.moved (u := U) (U := U.calling g mk a) (Vm.Alike.refl U.vm) qT⟩
  · intro U hU hW
    refine ⟨rfl, by rw [hU], by rw [hU]; exact h.1.sub isC (fm_of hC), KK.moved hW.alike C.2.1, (h.2.1.sub isC hn hC).weaken (fun _ _ _ _ => trivial), ?_⟩
    rw [hU]
    exact ((C.2.2.1.kept h.2.2.2.1).narrow hF).moved hW.alike
theorem preV (C : CX G A s args m own) (h : HS G A s H locs ws) (isC : List Nat) (hn : va_nd isC = true) (hC : isC.map (fun i => ws[i]?) = wc.map some) {As : List Value} {q0 ci : Nat} {fs : List Value} {q : vw_C} {Cn : String} (he : ws[q0]? = some (a, .inr (ci, fs))) (hc : vwCl[ci]? = some q) (hq : q.1 = Cn) : PreV s H Cn a (va_Pc (.ref a :: As) (WP G wc H.size)) As := by
  have h1 := preS C h isC hn hC (.ref a :: As)
  refine ⟨h1.1, ?_, h1.2⟩
  rw [← hq]
  exact va_recv C.2.1.1 h.1 hc he
theorem clsAt (C : CX G A s args m own) {ci : Nat} {q : vw_C} {Cn : String} (hc : vwCl[ci]? = some q) (hq : q.1 = Cn) : ClassAt s Cn (G.1.1 ci) := by
  rw [← hq]
  exact (C.2.1.1.1 ci q hc).2
theorem hs_join (C : CX G A s args m own) (h : HS G A s H locs ws) (isC isR : List Nat) {w1 : va_W} {H1 : Heap} {locs1 : List Loc} (hC : isC.map (fun i => ws[i]?) = wc.map some) (hR : isR.map (fun i => ws[i]?) = wr.map some) (hn : va_nd isR = true) (hdis : ∀ i ∈ isR, i ∉ isC)
    (hk : ∀ q : Nat, q < H.size → ¬ va_A wc H.size q → H1[q]? = H[q]?) (hP1 : va_P G.1 vwCl w1 H1) (hD1 : va_D (va_A wc H.size) w1) (hS : va_S A s.heap H1 locs1) : HS G A s H1 locs1 (wr ++ w1) := by
  have hF := va_free h.2.1 h.2.2 C.1 isC hC
  obtain ⟨h1, h2⟩ := va_join h.1 h.2.1 isC isR hC hR hn hdis hk hF hP1 hD1
  exact ⟨h1, h2, hS⟩
theorem gov {S : Type} {post : S → Prop} {wsf : S → va_W} {aa : Array Value} (hrun : va_Run p l e R s m args below meth c H locs cells slots mc ms (F0 m pc ls st0) rest (va_Qv post (WB G (va_A wc H.size) wsf) (va_A wc H.size) aa) (va_A wc H.size))
    (C : CX G A s args m own) (h : HS G A s H locs ws) (isC isR : List Nat) (hC : isC.map (fun i => ws[i]?) = wc.map some) (hnR : va_nd isR = true) (hR : isR.map (fun i => ws[i]?) = wr.map some) (hdis : ∀ i ∈ isR, i ∉ isC)
    (kk : ∀ (u : S) (H1 : Heap) (locs1 : List Loc), post u → HS G A s H1 locs1 (wr ++ wsf u) → W p l e R s m args below meth c H1 locs1 (cells + mc) (slots + ms) Q (F0 m (pc + 3) ls rest)) : W p l e R s m args below meth c H locs cells slots Q (F0 m pc ls st0) := by
  have hF := va_free h.2.1 h.2.2 C.1 isC hC
  refine va_callv hrun h.2.2 (fun q _ hq => hF q hq) hF (fun u t H1 locs1 ht hvm hp hB hz hk hS => ?_)
  have hP1 : va_P G.1 vwCl (wsf u) H1 := by rw [← ht]; exact hB.1
  exact kk u H1 locs1 hp (hs_join C h isC isR hC hR hnR hdis hk hP1 hB.2 hS)
theorem goi {S : Type} {post : Int32 → S → Prop} {wsf : S → va_W} {aa : Array Value} (hrun : va_Run p l e R s m args below meth c H locs cells slots mc ms (F0 m pc ls st0) rest (va_Qi post (WB G (va_A wc H.size) wsf) (va_A wc H.size) aa) (va_A wc H.size))
    (C : CX G A s args m own) (h : HS G A s H locs ws) (isC isR : List Nat) (hC : isC.map (fun i => ws[i]?) = wc.map some) (hnR : va_nd isR = true) (hR : isR.map (fun i => ws[i]?) = wr.map some) (hdis : ∀ i ∈ isR, i ∉ isC)
    (kk : ∀ (r : Int32) (u : S) (H1 : Heap) (locs1 : List Loc), post r u → HS G A s H1 locs1 (wr ++ wsf u) → W p l e R s m args below meth c H1 locs1 (cells + mc) (slots + ms) Q (F0 m (pc + 3) ls (.int r :: rest))) : W p l e R s m args below meth c H locs cells slots Q (F0 m pc ls st0) := by
  have hF := va_free h.2.1 h.2.2 C.1 isC hC
  refine va_calli hrun h.2.2 (fun q _ hq => hF q hq) hF (fun r u t H1 locs1 ht hvm hp hB hz hk hS => ?_)
  have hP1 : va_P G.1 vwCl (wsf u) H1 := by rw [← ht]; exact hB.1
  exact kk r u H1 locs1 hp (hs_join C h isC isR hC hR hnR hdis hk hP1 hB.2 hS)
theorem goFv {S : Type} {post : S → Prop} {wsf : S → va_W} {aa : Array Value} (hrun : va_Run5 p l e R s m args below meth c H locs cells slots mc ms (F0 m pc ls st0) rest (va_Qv post (WB G (va_A wc H.size) wsf) (va_A wc H.size) aa) (va_A wc H.size))
    (C : CX G A s args m own) (h : HS G A s H locs ws) (isC isR : List Nat) (hC : isC.map (fun i => ws[i]?) = wc.map some) (hnR : va_nd isR = true) (hR : isR.map (fun i => ws[i]?) = wr.map some) (hdis : ∀ i ∈ isR, i ∉ isC)
    (kk : ∀ (u : S) (H1 : Heap) (locs1 : List Loc), post u → HS G A s H1 locs1 (wr ++ wsf u) → W p l e R s m args below meth c H1 locs1 (cells + mc) (slots + ms) Q (F0 m (pc + 5) ls rest)) : W p l e R s m args below meth c H locs cells slots Q (F0 m pc ls st0) := by
  have hF := va_free h.2.1 h.2.2 C.1 isC hC
  refine va_callFv hrun h.2.2 (fun q _ hq => hF q hq) hF (fun u t H1 locs1 ht hvm hp hB hz hk hS => ?_)
  have hP1 : va_P G.1 vwCl (wsf u) H1 := by rw [← ht]; exact hB.1
  exact kk u H1 locs1 hp (hs_join C h isC isR hC hR hnR hdis hk hP1 hB.2 hS)
theorem goFi {S : Type} {post : Int32 → S → Prop} {wsf : S → va_W} {aa : Array Value} (hrun : va_Run5 p l e R s m args below meth c H locs cells slots mc ms (F0 m pc ls st0) rest (va_Qi post (WB G (va_A wc H.size) wsf) (va_A wc H.size) aa) (va_A wc H.size))
    (C : CX G A s args m own) (h : HS G A s H locs ws) (isC isR : List Nat) (hC : isC.map (fun i => ws[i]?) = wc.map some) (hnR : va_nd isR = true) (hR : isR.map (fun i => ws[i]?) = wr.map some) (hdis : ∀ i ∈ isR, i ∉ isC)
    (kk : ∀ (r : Int32) (u : S) (H1 : Heap) (locs1 : List Loc), post r u → HS G A s H1 locs1 (wr ++ wsf u) → W p l e R s m args below meth c H1 locs1 (cells + mc) (slots + ms) Q (F0 m (pc + 5) ls (.int r :: rest))) : W p l e R s m args below meth c H locs cells slots Q (F0 m pc ls st0) := by
  have hF := va_free h.2.1 h.2.2 C.1 isC hC
  refine va_callFi hrun h.2.2 (fun q _ hq => hF q hq) hF (fun r u t H1 locs1 ht hvm hp hB hz hk hS => ?_)
  have hP1 : va_P G.1 vwCl (wsf u) H1 := by rw [← ht]; exact hB.1
  exact kk r u H1 locs1 hp (hs_join C h isC isR hC hR hnR hdis hk hP1 hB.2 hS)
theorem kVv (hx : p.tables.exec = Jvm.exec) (hb : c.code = cc) (hml : c.maxLocals = nL) (C : CX G A s args m own) (h : HS G A s H locs ws) {y : MethodName} {b' : ByteArray} {L' fr lo index na : Nat} {Cn : String} {As : List Value} {S : Type} {post : S → Prop} {wsf : S → va_W}
    (hM : CtV l G y b' L' fr lo mc ms (.ref a :: As) wc H.size post wsf) (hG : GoodIn lw_all (wsV own index Cn y (ws_ y b' L' none))) (hd : y.cls = Cn ∧ y.cls ≠ "java/lang/invoke/MethodHandle" ∧ y.cls ≠ "java/lang/invoke/VarHandle" ∧ (parseMethodDescriptor y.desc).map (fun d => d.parameters.length) = some na) (hna : As.length = na) (hRm : fr + 1 ≤ R.frames ∧ 8 + (L' + 11) + lo ≤ R.locals) (q0 : Nat) {ci : Nat} {fs : List Value} {q : vw_C} (he : ws[q0]? = some (a, .inr (ci, fs))) (hc : vwCl[ci]? = some q) (hq : q.1 = Cn) (isC : List Nat) (hnC : va_nd isC = true) (hC : isC.map (fun i => ws[i]?) = wc.map some) (isR : List Nat) (hnR : va_nd isR = true) (hR : isR.map (fun i => ws[i]?) = wr.map some) (hdis : ∀ i ∈ isR, i ∉ isC)
    (hls : ls.size = nL) (hst : st0 = As.reverse ++ .ref a :: rest) (hW : (rest.map fun v => v.category).sum ≤ 8) (hf : cells + mc ≤ R.cells ∧ slots + ms ≤ R.slots) (hdg : decode cc pc = .ok (.invokevirtual index, 3))
    (kk : ∀ (u : S) (H1 : Heap) (locs1 : List Loc), post u → HS G A s H1 locs1 (wr ++ wsf u) → W p l e R s m args below meth c H1 locs1 (cells + mc) (slots + ms) Q (F0 m (pc + 3) ls rest)) : W p l e R s m args below meth c H locs cells slots Q (F0 m pc ls st0) :=
  gov (va_runV (As := As) (rest := rest) ⟨hx, hb, hml, C.2.2.2.1, C.2.2.2.2⟩ hM (cwV na C.2.2.2.2 hG rfl rfl rfl hd hRm) (preV C h isC hnC hC he hc hq) rfl hna hls hst (lv_room hW) hdg hf) C h isC isR hC hnR hR hdis kk
theorem kVi (hx : p.tables.exec = Jvm.exec) (hb : c.code = cc) (hml : c.maxLocals = nL) (C : CX G A s args m own) (h : HS G A s H locs ws) {y : MethodName} {b' : ByteArray} {L' fr lo index na : Nat} {Cn : String} {As : List Value} {rt : FieldType} {S : Type} {post : Int32 → S → Prop} {wsf : S → va_W}
    (hM : CtI l G y b' L' rt fr lo mc ms (.ref a :: As) wc H.size post wsf) (hG : GoodIn lw_all (wsV own index Cn y (ws_ y b' L' (some rt)))) (hd : y.cls = Cn ∧ y.cls ≠ "java/lang/invoke/MethodHandle" ∧ y.cls ≠ "java/lang/invoke/VarHandle" ∧ (parseMethodDescriptor y.desc).map (fun d => d.parameters.length) = some na) (hna : As.length = na) (hRm : fr + 1 ≤ R.frames ∧ 8 + (L' + 11) + lo ≤ R.locals) (q0 : Nat) {ci : Nat} {fs : List Value} {q : vw_C} (he : ws[q0]? = some (a, .inr (ci, fs))) (hc : vwCl[ci]? = some q) (hq : q.1 = Cn) (isC : List Nat) (hnC : va_nd isC = true) (hC : isC.map (fun i => ws[i]?) = wc.map some) (isR : List Nat) (hnR : va_nd isR = true) (hR : isR.map (fun i => ws[i]?) = wr.map some) (hdis : ∀ i ∈ isR, i ∉ isC)
    (hls : ls.size = nL) (hst : st0 = As.reverse ++ .ref a :: rest) (hW : (rest.map fun v => v.category).sum ≤ 8) (hf : cells + mc ≤ R.cells ∧ slots + ms ≤ R.slots) (hdg : decode cc pc = .ok (.invokevirtual index, 3))
    (kk : ∀ (r : Int32) (u : S) (H1 : Heap) (locs1 : List Loc), post r u → HS G A s H1 locs1 (wr ++ wsf u) → W p l e R s m args below meth c H1 locs1 (cells + mc) (slots + ms) Q (F0 m (pc + 3) ls (.int r :: rest))) : W p l e R s m args below meth c H locs cells slots Q (F0 m pc ls st0) :=
  goi (va_runV (As := As) (rest := rest) ⟨hx, hb, hml, C.2.2.2.1, C.2.2.2.2⟩ hM (cwV na C.2.2.2.2 hG rfl rfl rfl hd hRm) (preV C h isC hnC hC he hc hq) rfl hna hls hst (lv_room hW) hdg hf) C h isC isR hC hnR hR hdis kk
theorem kVp (hx : p.tables.exec = Jvm.exec) (hb : c.code = cc) (hml : c.maxLocals = nL) (C : CX G A s args m own) (h : HS G A s H locs ws) {y : MethodName} {b' : ByteArray} {L' fr lo index na : Nat} {Cn : String} {As : List Value} {rt : FieldType} {post : Int32 → Prop}
    (hM : CtP l G y b' L' rt fr lo (.ref a :: As) wc H.size post) (hG : GoodIn lw_all (wsV own index Cn y (ws_ y b' L' (some rt)))) (hd : y.cls = Cn ∧ y.cls ≠ "java/lang/invoke/MethodHandle" ∧ y.cls ≠ "java/lang/invoke/VarHandle" ∧ (parseMethodDescriptor y.desc).map (fun d => d.parameters.length) = some na) (hna : As.length = na) (hRm : fr + 1 ≤ R.frames ∧ 8 + (L' + 11) + lo ≤ R.locals) (q0 : Nat) {ci : Nat} {fs : List Value} {q : vw_C} (he : ws[q0]? = some (a, .inr (ci, fs))) (hc : vwCl[ci]? = some q) (hq : q.1 = Cn) (isC : List Nat) (hnC : va_nd isC = true) (hC : isC.map (fun i => ws[i]?) = wc.map some)
    (hls : ls.size = nL) (hst : st0 = As.reverse ++ .ref a :: rest) (hW : (rest.map fun v => v.category).sum ≤ 8) (hf : cells ≤ R.cells ∧ slots ≤ R.slots) (hdg : decode cc pc = .ok (.invokevirtual index, 3))
    (kk : ∀ (r : Int32), post r → W p l e R s m args below meth c H locs cells slots Q (F0 m (pc + 3) ls (.int r :: rest))) : W p l e R s m args below meth c H locs cells slots Q (F0 m pc ls st0) :=
  vp_callSi (va_Run.run (va_runV (As := As) (rest := rest) ⟨hx, hb, hml, C.2.2.2.1, C.2.2.2.2⟩ hM (cwV na C.2.2.2.2 hG rfl rfl rfl hd hRm) (preV C h isC hnC hC he hc hq) rfl hna hls hst (lv_room hW) hdg hf)) kk
theorem kSv (hx : p.tables.exec = Jvm.exec) (hb : c.code = cc) (hml : c.maxLocals = nL) (C : CX G A s args m own) (h : HS G A s H locs ws) {y : MethodName} {b' : ByteArray} {L' fr lo index na : Nat} {As : List Value} {S : Type} {post : S → Prop} {wsf : S → va_W}
    (hM : CtV l G y b' L' fr lo mc ms As wc H.size post wsf) (hG : GoodIn lw_all (va_wsS own index y (ws_ y b' L' none))) (hd : y.cls ≠ "java/lang/invoke/MethodHandle" ∧ y.cls ≠ "java/lang/invoke/VarHandle" ∧ (parseMethodDescriptor y.desc).map (fun d => d.parameters.length) = some na) (hna : As.length = na) (hRm : fr + 1 ≤ R.frames ∧ 8 + (L' + 11) + lo ≤ R.locals)  (isC : List Nat) (hnC : va_nd isC = true) (hC : isC.map (fun i => ws[i]?) = wc.map some) (isR : List Nat) (hnR : va_nd isR = true) (hR : isR.map (fun i => ws[i]?) = wr.map some) (hdis : ∀ i ∈ isR, i ∉ isC)
    (hls : ls.size = nL) (hst : st0 = As.reverse ++ rest) (hW : (rest.map fun v => v.category).sum ≤ 8) (hf : cells + mc ≤ R.cells ∧ slots + ms ≤ R.slots) (hdg : decode cc pc = .ok (.invokestatic index, 3))
    (kk : ∀ (u : S) (H1 : Heap) (locs1 : List Loc), post u → HS G A s H1 locs1 (wr ++ wsf u) → W p l e R s m args below meth c H1 locs1 (cells + mc) (slots + ms) Q (F0 m (pc + 3) ls rest)) : W p l e R s m args below meth c H locs cells slots Q (F0 m pc ls st0) :=
  gov (va_runS (As := As) (rest := rest) ⟨hx, hb, hml, C.2.2.2.1, C.2.2.2.2⟩ hM (va_cwS na C.2.2.2.2 hG rfl rfl rfl hd hRm) (preS C h isC hnC hC As) rfl hna hls hst (lv_room hW) hdg hf) C h isC isR hC hnR hR hdis kk
theorem kSp (hx : p.tables.exec = Jvm.exec) (hb : c.code = cc) (hml : c.maxLocals = nL) (C : CX G A s args m own) (h : HS G A s H locs ws) {y : MethodName} {b' : ByteArray} {L' fr lo index na : Nat} {As : List Value} {rt : FieldType} {post : Int32 → Prop}
    (hM : CtP l G y b' L' rt fr lo As wc H.size post) (hG : GoodIn lw_all (va_wsS own index y (ws_ y b' L' (some rt)))) (hd : y.cls ≠ "java/lang/invoke/MethodHandle" ∧ y.cls ≠ "java/lang/invoke/VarHandle" ∧ (parseMethodDescriptor y.desc).map (fun d => d.parameters.length) = some na) (hna : As.length = na) (hRm : fr + 1 ≤ R.frames ∧ 8 + (L' + 11) + lo ≤ R.locals)  (isC : List Nat) (hnC : va_nd isC = true) (hC : isC.map (fun i => ws[i]?) = wc.map some)
    (hls : ls.size = nL) (hst : st0 = As.reverse ++ rest) (hW : (rest.map fun v => v.category).sum ≤ 8) (hf : cells ≤ R.cells ∧ slots ≤ R.slots) (hdg : decode cc pc = .ok (.invokestatic index, 3))
    (kk : ∀ (r : Int32), post r → W p l e R s m args below meth c H locs cells slots Q (F0 m (pc + 3) ls (.int r :: rest))) : W p l e R s m args below meth c H locs cells slots Q (F0 m pc ls st0) :=
  vp_callSi (va_Run.run (va_runS (As := As) (rest := rest) ⟨hx, hb, hml, C.2.2.2.1, C.2.2.2.2⟩ hM (va_cwS na C.2.2.2.2 hG rfl rfl rfl hd hRm) (preS C h isC hnC hC As) rfl hna hls hst (lv_room hW) hdg hf)) kk
theorem kIv (hx : p.tables.exec = Jvm.exec) (hb : c.code = cc) (hml : c.maxLocals = nL) (C : CX G A s args m own) (h : HS G A s H locs ws) {y : MethodName} {b' : ByteArray} {L' fr lo index na : Nat} {As : List Value} {S : Type} {post : S → Prop} {wsf : S → va_W}
    (hM : CtV l G y b' L' fr lo mc ms (.ref a :: As) wc H.size post wsf) (hG : GoodIn lw_all (ws_ y b' L' none)) (hini : Cond.initialized y.cls ∈ lw_all) (hlk : Cond.methodLink own index y ∈ lw_all) (him : Cond.instanceMethod y ∈ lw_all) (hy1 : y.name = "<init>") (hd : y.cls ≠ "java/lang/invoke/MethodHandle" ∧ y.cls ≠ "java/lang/invoke/VarHandle" ∧ (parseMethodDescriptor y.desc).map (fun d => d.parameters.length) = some na) (hna : As.length = na) (hRm : fr + 1 ≤ R.frames ∧ 8 + (L' + 11) + lo ≤ R.locals)  (isC : List Nat) (hnC : va_nd isC = true) (hC : isC.map (fun i => ws[i]?) = wc.map some) (isR : List Nat) (hnR : va_nd isR = true) (hR : isR.map (fun i => ws[i]?) = wr.map some) (hdis : ∀ i ∈ isR, i ∉ isC)
    (hls : ls.size = nL) (hst : st0 = As.reverse ++ .ref a :: rest) (hW : (rest.map fun v => v.category).sum ≤ 8) (hf : cells + mc ≤ R.cells ∧ slots + ms ≤ R.slots) (hdg : decode cc pc = .ok (.invokespecial index, 3))
    (kk : ∀ (u : S) (H1 : Heap) (locs1 : List Loc), post u → HS G A s H1 locs1 (wr ++ wsf u) → W p l e R s m args below meth c H1 locs1 (cells + mc) (slots + ms) Q (F0 m (pc + 3) ls rest)) : W p l e R s m args below meth c H locs cells slots Q (F0 m pc ls st0) :=
  gov (va_runI (As := As) (rest := rest) ⟨hx, hb, hml, C.2.2.2.1, C.2.2.2.2⟩ hM (cwI na C.2.2.2.2 hG rfl rfl rfl (C.2.2.2.2 _ hini) (C.2.2.2.2 _ hlk) (C.2.2.2.2 _ him) hy1 hd hRm) (preS C h isC hnC hC (.ref a :: As)) rfl hna hls hst (lv_room hW) hdg hf) C h isC isR hC hnR hR hdis kk
theorem kUv (hx : p.tables.exec = Jvm.exec) (hb : c.code = cc) (hml : c.maxLocals = nL) (C : CX G A s args m own) (h : HS G A s H locs ws) {y : MethodName} {b' : ByteArray} {L' fr lo index na : Nat} {Cn : String} {As : List Value} {S : Type} {post : S → Prop} {wsf : S → va_W}
    (hM : CtV l G y b' L' fr lo mc ms (.ref a :: As) wc H.size post wsf) {x : MethodName} {owner : String} (hG : GoodIn lw_all (va_wsU own index Cn owner x y (ws_ y b' L' none))) (hyx : y = ⟨owner, x.name, x.desc⟩) (hd : owner ≠ "java/lang/invoke/MethodHandle" ∧ owner ≠ "java/lang/invoke/VarHandle" ∧ (parseMethodDescriptor x.desc).map (fun d => d.parameters.length) = some na) (hna : As.length = na) (hRm : fr + 1 ≤ R.frames ∧ 8 + (L' + 11) + lo ≤ R.locals) (q0 : Nat) {ci : Nat} {fs : List Value} {q : vw_C} (he : ws[q0]? = some (a, .inr (ci, fs))) (hc : vwCl[ci]? = some q) (hq : q.1 = Cn) (isC : List Nat) (hnC : va_nd isC = true) (hC : isC.map (fun i => ws[i]?) = wc.map some) (isR : List Nat) (hnR : va_nd isR = true) (hR : isR.map (fun i => ws[i]?) = wr.map some) (hdis : ∀ i ∈ isR, i ∉ isC)
    (hls : ls.size = nL) (hst : st0 = As.reverse ++ .ref a :: rest) (hW : (rest.map fun v => v.category).sum ≤ 8) (hf : cells + mc ≤ R.cells ∧ slots + ms ≤ R.slots) (hdg : decode cc pc = .ok (.invokevirtual index, 3))
    (kk : ∀ (u : S) (H1 : Heap) (locs1 : List Loc), post u → HS G A s H1 locs1 (wr ++ wsf u) → W p l e R s m args below meth c H1 locs1 (cells + mc) (slots + ms) Q (F0 m (pc + 3) ls rest)) : W p l e R s m args below meth c H locs cells slots Q (F0 m pc ls st0) :=
  gov (va_runU (As := As) (rest := rest) ⟨hx, hb, hml, C.2.2.2.1, C.2.2.2.2⟩ hM (va_cwU na C.2.2.2.2 hG rfl rfl rfl hyx hd hRm) (preV C h isC hnC hC he hc hq) rfl hna hls hst (lv_room hW) hdg hf) C h isC isR hC hnR hR hdis kk
theorem kAv (hx : p.tables.exec = Jvm.exec) (hb : c.code = cc) (hml : c.maxLocals = nL) (C : CX G A s args m own) (h : HS G A s H locs ws) {y : MethodName} {b' : ByteArray} {L' fr lo index na : Nat} {Cn : String} {As : List Value} {S : Type} {post : S → Prop} {wsf : S → va_W}
    (hM : CtV l G y b' L' fr lo mc ms (.ref a :: As) wc H.size post wsf) {x : MethodName} {owner : String} (hG : GoodIn lw_all (va_wsU own index Cn owner x y (ws_ y b' L' none))) (hz : va_Nw (.declares ⟨owner, x.name, x.desc⟩) s) (hd : owner ≠ "java/lang/invoke/MethodHandle" ∧ owner ≠ "java/lang/invoke/VarHandle" ∧ (parseMethodDescriptor x.desc).map (fun d => d.parameters.length) = some na) (hna : As.length = na) (hRm : fr + 1 ≤ R.frames ∧ 8 + (L' + 11) + lo ≤ R.locals) (q0 : Nat) {ci : Nat} {fs : List Value} {q : vw_C} (he : ws[q0]? = some (a, .inr (ci, fs))) (hc : vwCl[ci]? = some q) (hq : q.1 = Cn) (isC : List Nat) (hnC : va_nd isC = true) (hC : isC.map (fun i => ws[i]?) = wc.map some) (isR : List Nat) (hnR : va_nd isR = true) (hR : isR.map (fun i => ws[i]?) = wr.map some) (hdis : ∀ i ∈ isR, i ∉ isC)
    (hls : ls.size = nL) (hst : st0 = As.reverse ++ .ref a :: rest) (hW : (rest.map fun v => v.category).sum ≤ 8) (hf : cells + mc ≤ R.cells ∧ slots + ms ≤ R.slots) (hdg : decode cc pc = .ok (.invokevirtual index, 3))
    (kk : ∀ (u : S) (H1 : Heap) (locs1 : List Loc), post u → HS G A s H1 locs1 (wr ++ wsf u) → W p l e R s m args below meth c H1 locs1 (cells + mc) (slots + ms) Q (F0 m (pc + 3) ls rest)) : W p l e R s m args below meth c H locs cells slots Q (F0 m pc ls st0) :=
  gov (va_runU (As := As) (rest := rest) ⟨hx, hb, hml, C.2.2.2.1, C.2.2.2.2⟩ hM (va_cwA na C.2.2.2.2 hG rfl rfl rfl hz hd hRm) (preV C h isC hnC hC he hc hq) rfl hna hls hst (lv_room hW) hdg hf) C h isC isR hC hnR hR hdis kk
theorem kDv (hx : p.tables.exec = Jvm.exec) (hb : c.code = cc) (hml : c.maxLocals = nL) (C : CX G A s args m own) (h : HS G A s H locs ws) {y : MethodName} {b' : ByteArray} {L' fr lo index na : Nat} {Cn : String} {As : List Value} {S : Type} {post : S → Prop} {wsf : S → va_W}
    (hM : CtV l G y b' L' fr lo mc ms (.ref a :: As) wc H.size post wsf) (hG : GoodIn lw_all (va_wsSU own index y (ws_ y b' L' none))) (hd : y.name ≠ "<init>" ∧ (parseMethodDescriptor y.desc).map (fun d => d.parameters.length) = some na) (hna : As.length = na) (hRm : fr + 1 ≤ R.frames ∧ 8 + (L' + 11) + lo ≤ R.locals) (q0 : Nat) {ci : Nat} {fs : List Value} {q : vw_C} (he : ws[q0]? = some (a, .inr (ci, fs))) (hc : vwCl[ci]? = some q) (hq : q.1 = Cn) (isC : List Nat) (hnC : va_nd isC = true) (hC : isC.map (fun i => ws[i]?) = wc.map some) (isR : List Nat) (hnR : va_nd isR = true) (hR : isR.map (fun i => ws[i]?) = wr.map some) (hdis : ∀ i ∈ isR, i ∉ isC)
    (hls : ls.size = nL) (hst : st0 = As.reverse ++ .ref a :: rest) (hW : (rest.map fun v => v.category).sum ≤ 8) (hf : cells + mc ≤ R.cells ∧ slots + ms ≤ R.slots) (hdg : decode cc pc = .ok (.invokespecial index, 3))
    (kk : ∀ (u : S) (H1 : Heap) (locs1 : List Loc), post u → HS G A s H1 locs1 (wr ++ wsf u) → W p l e R s m args below meth c H1 locs1 (cells + mc) (slots + ms) Q (F0 m (pc + 3) ls rest)) : W p l e R s m args below meth c H locs cells slots Q (F0 m pc ls st0) :=
  gov (va_runSU (clsAt C hc hq) (As := As) (rest := rest) ⟨hx, hb, hml, C.2.2.2.1, C.2.2.2.2⟩ hM (va_cwSU na C.2.2.2.2 hG rfl rfl rfl hd hRm) (preV C h isC hnC hC he hc hq) rfl hna hls hst (lv_room hW) hdg hf) C h isC isR hC hnR hR hdis kk
theorem kFv (hx : p.tables.exec = Jvm.exec) (hb : c.code = cc) (hml : c.maxLocals = nL) (C : CX G A s args m own) (h : HS G A s H locs ws) {y : MethodName} {b' : ByteArray} {L' fr lo index na : Nat} {Cn : String} {As : List Value} {S : Type} {post : S → Prop} {wsf : S → va_W}
    (hM : CtV l G y b' L' fr lo mc ms (.ref a :: As) wc H.size post wsf) {x : MethodName} {count : Nat} (hG : GoodIn lw_all (va_wsF own index Cn x y (ws_ y b' L' none))) (hF : va_Fw Cn x y s) (hd : x.cls ≠ "java/lang/invoke/MethodHandle" ∧ x.cls ≠ "java/lang/invoke/VarHandle" ∧ (parseMethodDescriptor x.desc).map (fun d => d.parameters.length) = some na) (hna : As.length = na) (hRm : fr + 1 ≤ R.frames ∧ 8 + (L' + 11) + lo ≤ R.locals) (q0 : Nat) {ci : Nat} {fs : List Value} {q : vw_C} (he : ws[q0]? = some (a, .inr (ci, fs))) (hc : vwCl[ci]? = some q) (hq : q.1 = Cn) (isC : List Nat) (hnC : va_nd isC = true) (hC : isC.map (fun i => ws[i]?) = wc.map some) (isR : List Nat) (hnR : va_nd isR = true) (hR : isR.map (fun i => ws[i]?) = wr.map some) (hdis : ∀ i ∈ isR, i ∉ isC)
    (hls : ls.size = nL) (hst : st0 = As.reverse ++ .ref a :: rest) (hW : (rest.map fun v => v.category).sum ≤ 8) (hf : cells + mc ≤ R.cells ∧ slots + ms ≤ R.slots) (hdg : decode cc pc = .ok (.invokeinterface index count, 5))
    (kk : ∀ (u : S) (H1 : Heap) (locs1 : List Loc), post u → HS G A s H1 locs1 (wr ++ wsf u) → W p l e R s m args below meth c H1 locs1 (cells + mc) (slots + ms) Q (F0 m (pc + 5) ls rest)) : W p l e R s m args below meth c H locs cells slots Q (F0 m pc ls st0) :=
  goFv (va_runF (clsAt C hc hq) (As := As) (rest := rest) ⟨hx, hb, hml, C.2.2.2.1, C.2.2.2.2⟩ hM (va_cwF na C.2.2.2.2 hG rfl rfl rfl hF hd hRm) (preV C h isC hnC hC he hc hq) rfl hna hls hst (lv_room hW) hdg hf) C h isC isR hC hnR hR hdis kk
theorem kFi (hx : p.tables.exec = Jvm.exec) (hb : c.code = cc) (hml : c.maxLocals = nL) (C : CX G A s args m own) (h : HS G A s H locs ws) {y : MethodName} {b' : ByteArray} {L' fr lo index na : Nat} {Cn : String} {As : List Value} {rt : FieldType} {S : Type} {post : Int32 → S → Prop} {wsf : S → va_W}
    (hM : CtI l G y b' L' rt fr lo mc ms (.ref a :: As) wc H.size post wsf) {x : MethodName} {count : Nat} (hG : GoodIn lw_all (va_wsF own index Cn x y (ws_ y b' L' (some rt)))) (hF : va_Fw Cn x y s) (hd : x.cls ≠ "java/lang/invoke/MethodHandle" ∧ x.cls ≠ "java/lang/invoke/VarHandle" ∧ (parseMethodDescriptor x.desc).map (fun d => d.parameters.length) = some na) (hna : As.length = na) (hRm : fr + 1 ≤ R.frames ∧ 8 + (L' + 11) + lo ≤ R.locals) (q0 : Nat) {ci : Nat} {fs : List Value} {q : vw_C} (he : ws[q0]? = some (a, .inr (ci, fs))) (hc : vwCl[ci]? = some q) (hq : q.1 = Cn) (isC : List Nat) (hnC : va_nd isC = true) (hC : isC.map (fun i => ws[i]?) = wc.map some) (isR : List Nat) (hnR : va_nd isR = true) (hR : isR.map (fun i => ws[i]?) = wr.map some) (hdis : ∀ i ∈ isR, i ∉ isC)
    (hls : ls.size = nL) (hst : st0 = As.reverse ++ .ref a :: rest) (hW : (rest.map fun v => v.category).sum ≤ 8) (hf : cells + mc ≤ R.cells ∧ slots + ms ≤ R.slots) (hdg : decode cc pc = .ok (.invokeinterface index count, 5))
    (kk : ∀ (r : Int32) (u : S) (H1 : Heap) (locs1 : List Loc), post r u → HS G A s H1 locs1 (wr ++ wsf u) → W p l e R s m args below meth c H1 locs1 (cells + mc) (slots + ms) Q (F0 m (pc + 5) ls (.int r :: rest))) : W p l e R s m args below meth c H locs cells slots Q (F0 m pc ls st0) :=
  goFi (va_runF (clsAt C hc hq) (As := As) (rest := rest) ⟨hx, hb, hml, C.2.2.2.1, C.2.2.2.2⟩ hM (va_cwF na C.2.2.2.2 hG rfl rfl rfl hF hd hRm) (preV C h isC hnC hC he hc hq) rfl hna hls hst (lv_room hW) hdg hf) C h isC isR hC hnR hR hdis kk
end CALLS
end
section
/-! small rows that the walks use -/
set_option maxRecDepth 100000
theorem ii1 (j : Nat) : nI j + Int32.ofInt 1 = nI (j + 1) := by rw [show Int32.ofInt 1 = nI 1 from by decide +kernel]; exact nI_add j 1
theorem ii4 (j : Nat) : nI j + Int32.ofInt 4 = nI (j + 4) := by rw [show Int32.ofInt 4 = nI 4 from by decide +kernel]; exact nI_add j 4
theorem ii6 (j : Nat) : nI j + Int32.ofInt 6 = nI (j + 6) := by rw [show Int32.ofInt 6 = nI 6 from by decide +kernel]; exact nI_add j 6
theorem ii64 (j : Nat) : nI j + Int32.ofInt 64 = nI (j + 64) := by rw [show Int32.ofInt 64 = nI 64 from by decide +kernel]; exact nI_add j 64
theorem lw_c4 {a b c d : Cond} (h1 : a ∈ lw_all) (h2 : b ∈ lw_all) (h3 : c ∈ lw_all) (h4 : d ∈ lw_all) : ∀ w ∈ [a, b, c, d], w ∈ lw_all := by
  intro w hw
  simp only [List.mem_cons, List.not_mem_nil, or_false] at hw
  rcases hw with e | e | e | e
  · rw [e]; exact h1
  · rw [e]; exact h2
  · rw [e]; exact h3
  · rw [e]; exact h4
theorem lw_c5 {a b c d f : Cond} (h1 : a ∈ lw_all) (h2 : b ∈ lw_all) (h3 : c ∈ lw_all) (h4 : d ∈ lw_all) (h5 : f ∈ lw_all) : ∀ w ∈ [a, b, c, d, f], w ∈ lw_all := by
  intro w hw
  simp only [List.mem_cons, List.not_mem_nil, or_false] at hw
  rcases hw with e | e | e | e | e
  · rw [e]; exact h1
  · rw [e]; exact h2
  · rw [e]; exact h3
  · rw [e]; exact h4
  · rw [e]; exact h5
theorem rot_7 (x : Int32) : rot 7 x = rl 7 25 x := rfl
theorem rot_9 (x : Int32) : rot 9 x = rl 9 23 x := rfl
theorem rot_12 (x : Int32) : rot 12 x = rl 12 20 x := rfl
theorem rot_15 (x : Int32) : rot 15 x = rl 15 17 x := rfl
theorem rot_17 (x : Int32) : rot 17 x = rl 17 15 x := rfl
theorem rot_19 (x : Int32) : rot 19 x = rl 19 13 x := rfl
theorem rot_23 (x : Int32) : rot 23 x = rl 23 9 x := rfl
/-- an int without its sign -/
def fN (x : Int32) : Nat := x.toBitVec.toNat % 2 ^ 31
theorem fN_lt (x : Int32) : fN x < 2 ^ 31 := Nat.mod_lt _ (by decide)
theorem fN_and (x : Int32) : x &&& 2147483647 = nI (fN x) := pk_and x 31 (by decide +kernel)
/-- n places from z on, written one after the other -/
def upk (f : Nat → Int32) (z : Nat) (g : Nat → Int32) : Nat → (Nat → Int32)
  | 0 => f
  | n + 1 => upd (upk f z g n) (z + n) (g n)
theorem upk_congr {f g g' : Nat → Int32} {z : Nat} : ∀ n, (∀ i, i < n → g i = g' i) → upk f z g n = upk f z g' n := by
  intro n
  induction n with
  | zero => intro _; rfl
  | succ n ih =>
    intro h
    show upd (upk f z g n) (z + n) (g n) = upd (upk f z g' n) (z + n) (g' n)
    rw [ih (fun i hi => h i (by omega)), h n (by omega)]
theorem upk_in {f g : Nat → Int32} {z : Nat} : ∀ n i, i < n → upk f z g n (z + i) = g i := by
  intro n
  induction n with
  | zero => intro i hi; exact absurd hi (by omega)
  | succ n ih =>
    intro i hi
    show upd (upk f z g n) (z + n) (g n) (z + i) = g i
    by_cases h : i = n
    · subst h; exact pk_us
    · rw [pk_un (by omega)]; exact ih i (by omega)
theorem upk_out {f g : Nat → Int32} {z : Nat} : ∀ n i, i < z → upk f z g n i = f i := by
  intro n
  induction n with
  | zero => intro i _; rfl
  | succ n ih =>
    intro i hi
    show upd (upk f z g n) (z + n) (g n) i = f i
    rw [pk_un (by omega)]; exact ih i hi
/-- byte r of a word, the highest first, as both write it -/
def ob (x : Int32) (r : Nat) : Int32 := ((x.toUInt32 >>> (Int32.toUInt32 (nI (24 - 8 * r)) &&& Int32.toUInt32 31)).toInt32).toInt8.toInt32
end
section
/-! the digest's bytes and words: a byte more, a word more -/
set_option maxRecDepth 100000
theorem DB.push {msg : Nat → Int32} {n : Nat} {v iw xb : Nat → Int32} {xo xbo : Int32} (h : DB msg n v iw xb xo xbo) (hn : n % 4 < 3) {b : Int32} (hb : b = msg n) : DB msg (n + 1) v iw (upd xb (n % 4) b) xo (nI (n % 4 + 1)) := by
  have e1 : (n + 1) / 4 = n / 4 := by omega
  have e2 : (n + 1) % 4 = n % 4 + 1 := by omega
  refine ⟨by rw [e1]; exact h.1, by rw [e2], fun i hi => ?_⟩
  rw [e1]
  rw [e2] at hi
  by_cases hc : i = n % 4
  · subst hc
    rw [pk_us, hb]
    congr 1
    omega
  · rw [pk_un hc]
    exact h.2.2 i (by omega)
theorem DB.word {msg : Nat → Int32} {n : Nat} {v iw xb : Nat → Int32} {xo xbo : Int32} (h : DB msg n v iw xb xo xbo) (hn : n % 4 = 3) {b : Int32} (hb : b = msg n) : be (upd xb (n % 4) b) 0 = wdm msg (n / 4) := by
  refine be_congr (fun i hi => ?_)
  rw [Nat.zero_add]
  by_cases hc : i = n % 4
  · subst hc
    rw [pk_us, hb]
    congr 1
    omega
  · rw [pk_un hc]
    exact h.2.2 i (by omega)
theorem DB.full {msg : Nat → Int32} {n : Nat} {v iw : Nat → Int32} {xo : Int32} (hn : n % 4 = 3) (h : DW (wdm msg) (n / 4 + 1) v iw xo) (xb : Nat → Int32) : DB msg (n + 1) v iw xb xo (nI 0) := by
  have e1 : (n + 1) / 4 = n / 4 + 1 := by omega
  have e2 : (n + 1) % 4 = 0 := by omega
  exact ⟨by rw [e1]; exact h, by rw [e2], fun i hi => absurd hi (by omega)⟩
theorem DB.four {msg : Nat → Int32} {n : Nat} {v iw : Nat → Int32} {xo : Int32} (hn : n % 4 = 0) (h : DW (wdm msg) (n / 4 + 1) v iw xo) (xb : Nat → Int32) : DB msg (n + 4) v iw xb xo (nI 0) := by
  have e1 : (n + 4) / 4 = n / 4 + 1 := by omega
  have e2 : (n + 4) % 4 = 0 := by omega
  exact ⟨by rw [e1]; exact h, by rw [e2], fun i hi => absurd hi (by omega)⟩
theorem DB.zero (msg v iw xb : Nat → Int32) (hv : v8 v = iv8) : DB msg 0 v iw xb (nI 0) (nI 0) :=
  ⟨⟨hv, rfl, fun i hi => absurd hi (Nat.not_lt_zero i)⟩, rfl, fun i hi => absurd hi (Nat.not_lt_zero i)⟩
theorem mx0 {c : Nat} (hc : c < 2 ^ 31) : (if nI 0 < nI c then nI c else nI 0) = nI c := by
  by_cases h : c = 0
  · subst h
    exact if_neg (nI_nlt (Nat.le_refl 0) (by decide))
  · exact if_pos (nI_lt (by omega) hc)
theorem lim_le {c i : Nat} (hc : c < 2 ^ 30) (hi : i < 2 ^ 30) : nI c - nI 3 ≤ nI i ↔ c ≤ i + 3 := by
  rw [Int32.le_iff_toInt_le, pk_sub_toInt hc (by decide), nI_toInt (Nat.lt_trans hi (by decide))]
  omega
/-- the state of a digest: its chain, its words, its schedule, its bytes, and how many of words and bytes stand -/
abbrev S6 : Type := (Nat → Int32) × (Nat → Int32) × (Nat → Int32) × (Nat → Int32) × Int32 × Int32
abbrev S4 : Type := (Nat → Int32) × (Nat → Int32) × (Nat → Int32) × Int32
abbrev dW (G : GG) (d pu xb va ia wa : Nat) (bc : Int64) (u : S6) : va_W := [oD d [.ref pu, .ref xb, .int u.2.2.2.2.2, .long bc, .ref va, .ref ia, .int u.2.2.2.2.1, .ref wa], aI G va 8 u.1, aI G ia 16 u.2.1, aI G wa 68 u.2.2.1, aB G xb 4 u.2.2.2.1]
abbrev DU (msg : Nat → Int32) (n : Nat) (u : S6) : Prop := DB msg n u.1 u.2.1 u.2.2.2.1 u.2.2.2.2.1 u.2.2.2.2.2
end
section
/-! the padded message: the model's bytes and words, and the digest's -/
set_option maxRecDepth 100000
theorem nx_or (a b : Nat) : nI a ||| nI b = nI (a ||| b) := by
  apply Int32.toBitVec_inj.mp
  rw [Int32.toBitVec_or]
  apply BitVec.eq_of_toNat_eq
  show (BitVec.ofNat 32 a ||| BitVec.ofNat 32 b).toNat = (BitVec.ofNat 32 (a ||| b)).toNat
  rw [BitVec.toNat_or, BitVec.toNat_ofNat, BitVec.toNat_ofNat, BitVec.toNat_ofNat, Nat.or_mod_two_pow]
theorem or_k {k a b : Nat} (hb : b < 2 ^ k) : nI (a * 2 ^ k) ||| nI b = nI (a * 2 ^ k + b) := by
  rw [nx_or, Nat.mul_comm, Nat.two_pow_add_eq_or_of_lt hb]
theorem sh8or {a b : Nat} (ha : a < 2 ^ 24) (hb : b < 256) : (nI a <<< ((8 : Int32) &&& 31)) ||| nI b = nI (a * 256 + b) := by
  rw [pk_shlN (n := a) _ 8 (by decide +kernel) (by omega)]
  exact or_k (k := 8) hb
/-- a byte without its sign -/
def bN (x : Int32) : Nat := x.toBitVec.toNat % 256
theorem bN_lt (x : Int32) : bN x < 256 := Nat.mod_lt _ (by decide)
theorem bN_and (x : Int32) : x &&& 255 = nI (bN x) := pk_and x 8 (by decide +kernel)
theorem sh24 (x : Int32) : x <<< ((24 : Int32) &&& 31) = nI (bN x * 2 ^ 24) := by
  apply Int32.toBitVec_inj.mp
  apply BitVec.eq_of_toNat_eq
  rw [pk_shl x _ 24 (by decide +kernel), pk_tn (by have := bN_lt x; omega)]
  unfold bN
  omega
def b4 (a b c d : Nat) : Nat := ((a * 256 + b) * 256 + c) * 256 + d
theorem be_N (f : Nat → Int32) (p : Nat) : be f p = nI (b4 (bN (f p)) (bN (f (p + 1))) (bN (f (p + 2))) (bN (f (p + 3)))) := by
  have h0 := bN_lt (f p)
  have h1 := bN_lt (f (p + 1))
  have h2 := bN_lt (f (p + 2))
  have h3 := bN_lt (f (p + 3))
  unfold be b4
  rw [sh24, bN_and, bN_and, bN_and, pk_shlN (n := bN (f (p + 1))) ((16 : Int32) &&& 31) 16 (by decide +kernel) (by omega), pk_shlN (n := bN (f (p + 2))) ((8 : Int32) &&& 31) 8 (by decide +kernel) (by omega)]
  rw [or_k (k := 24) (by omega)]
  rw [show bN (f p) * 2 ^ 24 + bN (f (p + 1)) * 2 ^ 16 = (bN (f p) * 256 + bN (f (p + 1))) * 2 ^ 16 by omega, or_k (k := 16) (by omega)]
  rw [show (bN (f p) * 256 + bN (f (p + 1))) * 2 ^ 16 + bN (f (p + 2)) * 2 ^ 8 = ((bN (f p) * 256 + bN (f (p + 1))) * 256 + bN (f (p + 2))) * 2 ^ 8 by omega, or_k (k := 8) (by omega)]
theorem be_zero {f : Nat → Int32} {p : Nat} (h : ∀ j, j < 4 → f (p + j) = 0) : be f p = 0 := by
  unfold be
  rw [show f p = 0 from h 0 (by decide), h 1 (by decide), h 2 (by decide), h 3 (by decide)]
  decide +kernel
theorem hi_zero {n : Nat} (h : n < 2 ^ 32) : ((lN n).toUInt64 >>> (((32 : Int32)).toInt64.toUInt64 &&& Int64.toUInt64 63)).toInt64.toInt32 = 0 := by
  have e : ((lN n).toUInt64 >>> (((32 : Int32)).toInt64.toUInt64 &&& Int64.toUInt64 63)).toInt64 = lN (n / 2 ^ 32) := wb_shr (k := 32) (Nat.lt_trans h (by decide)) (by decide)
  rw [e, Nat.div_eq_of_lt h]
  decide +kernel
/-- byte p of the padded message of n bytes, all bytes in all -/
def pdN (msg : Nat → Int32) (n all p : Nat) : Nat := if p < n then bN (msg p) else if p = n then 128 else if all - 1 - p < 8 then 8 * n / 2 ^ (8 * (all - 1 - p)) % 256 else 0
theorem pdN_lt (msg : Nat → Int32) (n all p : Nat) : pdN msg n all p < 256 := by
  unfold pdN
  split
  · exact bN_lt _
  · split
    · decide
    · split
      · exact Nat.mod_lt _ (by decide)
      · decide
/-- word i of the padded message -/
def mwN (msg : Nat → Int32) (n all i : Nat) : Nat := b4 (pdN msg n all (4 * i)) (pdN msg n all (4 * i + 1)) (pdN msg n all (4 * i + 2)) (pdN msg n all (4 * i + 3))
def sqw (msg : Nat → Int32) (n all : Nat) (i : Nat) : Int32 := nI (mwN msg n all i)
/-- the message with its padding, as the digest takes it -/
def pm (msg : Nat → Int32) (n p : Nat) : Int32 := if p < n then msg p else if p = n then -128 else 0
theorem pm_n (msg : Nat → Int32) (n : Nat) : pm msg n n = -128 := by
  unfold pm
  rw [if_neg (Nat.lt_irrefl n), if_pos rfl]
theorem pm_hi (msg : Nat → Int32) (n i : Nat) (h : n < i) : pm msg n i = 0 := by
  unfold pm
  rw [if_neg (by omega), if_neg (by omega)]
theorem pm_lo (msg : Nat → Int32) (n i : Nat) (h : i < n) : msg i = pm msg n i := by
  unfold pm
  rw [if_pos h]
theorem pm_pd {msg : Nat → Int32} {n all p : Nat} (h : p + 8 < all) : pdN msg n all p = bN (pm msg n p) := by
  unfold pdN pm
  by_cases h1 : p < n
  · rw [if_pos h1, if_pos h1]
  · rw [if_neg h1, if_neg h1]
    by_cases h2 : p = n
    · rw [if_pos h2, if_pos h2]
      decide +kernel
    · rw [if_neg h2, if_neg h2, if_neg (by omega)]
      decide +kernel
theorem sq_lo {msg : Nat → Int32} {n q all : Nat} (ha : all = 64 * (q + 1)) : ∀ i, i < 16 * q + 14 → sqw msg n all i = wdm (pm msg n) i := by
  intro i hi
  unfold sqw wdm mwN
  rw [be_N, pm_pd (by omega), pm_pd (by omega), pm_pd (by omega), pm_pd (by omega)]
theorem pd_len {msg : Nat → Int32} {n all p r : Nat} (h : n < p) (e : all - 1 - p = r) (hr : r < 8) : pdN msg n all p = 8 * n / 2 ^ (8 * r) % 256 := by
  unfold pdN
  rw [if_neg (by omega), if_neg (by omega), e, if_pos hr]
theorem sq_14 {msg : Nat → Int32} {n q all : Nat} (hn : n ≤ 16384) (hq : q = (n + 8) / 64) (ha : all = 64 * (q + 1)) : sqw msg n all (16 * q + 14) = 0 := by
  unfold sqw mwN
  rw [pd_len (r := 7) (by omega) (by omega) (by decide), pd_len (r := 6) (by omega) (by omega) (by decide), pd_len (r := 5) (by omega) (by omega) (by decide), pd_len (r := 4) (by omega) (by omega) (by decide)]
  have e7 : 8 * n / 2 ^ (8 * 7) % 256 = 0 := by omega
  have e6 : 8 * n / 2 ^ (8 * 6) % 256 = 0 := by omega
  have e5 : 8 * n / 2 ^ (8 * 5) % 256 = 0 := by omega
  have e4 : 8 * n / 2 ^ (8 * 4) % 256 = 0 := by omega
  rw [e7, e6, e5, e4]
  rfl
theorem sq_15 {msg : Nat → Int32} {n q all : Nat} (hn : n ≤ 16384) (hq : q = (n + 8) / 64) (ha : all = 64 * (q + 1)) : sqw msg n all (16 * q + 15) = nI (n * 8) := by
  unfold sqw mwN
  rw [pd_len (r := 3) (by omega) (by omega) (by decide), pd_len (r := 2) (by omega) (by omega) (by decide), pd_len (r := 1) (by omega) (by omega) (by decide), pd_len (r := 0) (by omega) (by omega) (by decide)]
  congr 1
  unfold b4
  omega
end
section
/-! bytes of a word, written either way; what put, feed, one come to -/
set_option maxRecDepth 100000
theorem i8_bt (x : Int32) {i : Nat} (h : i < 8) : x.toInt8.toBitVec.getLsbD i = bt x i := by
  unfold bt
  rw [Int32.toBitVec_toInt8, BitVec.getLsbD_signExtend]
  simp [h, show i < 32 by omega]
theorem i8_ext {x y : Int32} (h : ∀ i, i < 8 → bt x i = bt y i) : x.toInt8 = y.toInt8 := by
  apply Int8.toBitVec_inj.mp
  apply BitVec.eq_of_getLsbD_eq
  intro i hi
  rw [i8_bt x hi, i8_bt y hi]
  exact h i hi
theorem sh_ob (w : Int32) (k r : Nat) (hk : k < 32) (hr : 24 - 8 * r = k) (h24 : k + 8 ≤ 32) : (w >>> (nI k &&& 31)).toInt8.toInt32 = ob w r := by
  unfold ob
  rw [hr]
  congr 1
  refine i8_ext (fun i hi => ?_)
  rw [b_sshr k hk w (by omega), b_ushr k hk w i, if_pos (by omega)]
theorem sb24 (w : Int32) : (w >>> ((24 : Int32) &&& 31)).toInt8.toInt32 = ob w 0 := sh_ob w 24 0 (by decide) rfl (by decide)
theorem sb16 (w : Int32) : (w >>> ((16 : Int32) &&& 31)).toInt8.toInt32 = ob w 1 := sh_ob w 16 1 (by decide) rfl (by decide)
theorem sb8 (w : Int32) : (w >>> ((8 : Int32) &&& 31)).toInt8.toInt32 = ob w 2 := sh_ob w 8 2 (by decide) rfl (by decide)
/-- an array of bytes -/
def Bt (f : Nat → Int32) : Prop := ∀ i, vp_nar .byte (f i) = f i
theorem Bt.upd {f : Nat → Int32} (h : Bt f) (k : Nat) {x : Int32} (hx : vp_nar .byte x = x) : Bt (upd f k x) := by
  intro i
  by_cases e : i = k
  · subst e; rw [pk_us]; exact hx
  · rw [pk_un e]; exact h i
theorem Bt.upk {f g : Nat → Int32} (h : Bt f) (z : Nat) : ∀ n, (∀ i, i < n → vp_nar .byte (g i) = g i) → Bt (upk f z g n) := by
  intro n
  induction n with
  | zero => intro _; exact h
  | succ n ih => intro hg; exact Bt.upd (ih (fun i hi => hg i (by omega))) _ (hg n (by omega))
theorem Bt.zero : Bt (fun _ => 0) := fun _ => (show vp_nar .byte 0 = 0 from by decide +kernel)
/-- the sixteen bytes of four words -/
def q4 (a b c d : Int32) (k : Nat) : Int32 := if k < 4 then a else if k < 8 then b else if k < 12 then c else d
def q16b (a b c d : Int32) (k : Nat) : Int32 := ob (q4 a b c d k) (k % 4)
def putR (z : Nat) : Int32 := if z ≤ 1008 then 1 else 0
def putZ (z : Nat) : Nat := if z ≤ 1008 then z + 16 else z
def putT (t : Nat → Int32) (z : Nat) (a b c d : Int32) : Nat → Int32 := if z ≤ 1008 then upk t z (q16b a b c d) 16 else t
theorem putZ_le {z : Nat} (h : z ≤ 1024) : putZ z ≤ 1024 := by
  unfold putZ
  split <;> omega
theorem putT_Bt {t : Nat → Int32} (h : Bt t) (z : Nat) (a b c d : Int32) : Bt (putT t z a b c d) := by
  unfold putT
  split
  · exact h.upk z 16 (fun i _ => pk_vb _)
  · exact h
def fedR (n k : Nat) : Int32 := if n + k ≤ 16384 then 1 else 0
def fedN (n k : Nat) : Nat := if n + k ≤ 16384 then n + k else n
theorem fedN_le {n k : Nat} (h : n ≤ 16384) : fedN n k ≤ 16384 := by
  unfold fedN
  split <;> omega
/-- the same world in other words -/
theorem HS.eq {G : GG} {A : Nat → Prop} {s : State} {H : Heap} {locs : List Loc} {ws : va_W} (h : HS G A s H locs ws) (ws' : va_W) (e : ws' = ws) : HS G A s H locs ws' := by rw [e]; exact h
end
section
/-! Pack, the small methods of SM3Digest, processBlock -/
set_option maxRecDepth 100000
set_option maxHeartbeats 4000000 in
theorem c_X2_P0 (l : Launch) (G : GG) (a sz : Nat) (x : Int32) : CtP l G yX2_P0 cX2_P0 4 .int 0 0 [.ref a, .int (x)] [] sz (fun r => r = sP0 x) := by
  refine entP "SM3Digest" rfl (by decide +kernel) (Nat.le_of_ble_eq_true rfl) ?_
  intro p e s m below meth c A ls hx hb hr hk hml hsz C h hl
  have hl : lv_has ls 4 [(0, .ref a), (1, .int (x))] := hl
  refine lv_iload_n hx hb dX2_P0_0 rfl (lv_at hl 1 rfl) ?_
  refine lv_bipush (v := 9) hx hb dX2_P0_1 (by decide) ?_
  refine lv_ishl hx hb dX2_P0_3 ?_
  refine lv_iload_n hx hb dX2_P0_4 rfl (lv_at hl 1 rfl) ?_
  refine lv_bipush (v := 23) hx hb dX2_P0_5 (by decide) ?_
  refine lv_iushr (v := ((x).toUInt32 >>> (Int32.toUInt32 23 &&& Int32.toUInt32 31)).toInt32) hx hb dX2_P0_7 rfl ?_
  refine lv_ior hx hb dX2_P0_8 ?_
  refine tp_i (y := rl 9 23 x) (rfl) ?_
  refine lv_istore_n (lv' := [(2, .int (rl 9 23 x)), (0, .ref a), (1, .int (x))]) hx hb dX2_P0_9 rfl hl (by decide) rfl (fun ls hl => ?_)
  refine lv_iload_n hx hb dX2_P0_10 rfl (lv_at hl 2 rfl) ?_
  refine lv_bipush (v := 17) hx hb dX2_P0_11 (by decide) ?_
  refine lv_ishl hx hb dX2_P0_13 ?_
  refine lv_iload_n hx hb dX2_P0_14 rfl (lv_at hl 2 rfl) ?_
  refine lv_bipush (v := 15) hx hb dX2_P0_15 (by decide) ?_
  refine lv_iushr (v := ((x).toUInt32 >>> (Int32.toUInt32 15 &&& Int32.toUInt32 31)).toInt32) hx hb dX2_P0_17 rfl ?_
  refine lv_ior hx hb dX2_P0_18 ?_
  refine tp_i (y := rl 17 15 x) (rfl) ?_
  refine lv_istore_n (lv' := [(3, .int (rl 17 15 x)), (2, .int (rl 9 23 x)), (0, .ref a), (1, .int (x))]) hx hb dX2_P0_19 rfl hl (by decide) rfl (fun ls hl => ?_)
  refine lv_iload_n hx hb dX2_P0_20 rfl (lv_at hl 3 rfl) ?_
  refine lv_iload_n hx hb dX2_P0_21 rfl (lv_at hl 1 rfl) ?_
  refine lv_ixor hx hb dX2_P0_22 ?_
  refine lv_iload_n hx hb dX2_P0_23 rfl (lv_at hl 0 rfl) ?_
  refine lv_ixor hx hb dX2_P0_24 ?_
  exact retP hx hb hr hk (rfl) (rfl) dX2_P0_25
set_option maxHeartbeats 4000000 in
theorem c_X2_P1 (l : Launch) (G : GG) (a sz : Nat) (x : Int32) : CtP l G yX2_P1 cX2_P1 4 .int 0 0 [.ref a, .int (x)] [] sz (fun r => r = sP1 x) := by
  refine entP "SM3Digest" rfl (by decide +kernel) (Nat.le_of_ble_eq_true rfl) ?_
  intro p e s m below meth c A ls hx hb hr hk hml hsz C h hl
  have hl : lv_has ls 4 [(0, .ref a), (1, .int (x))] := hl
  refine lv_iload_n hx hb dX2_P1_0 rfl (lv_at hl 1 rfl) ?_
  refine lv_bipush (v := 15) hx hb dX2_P1_1 (by decide) ?_
  refine lv_ishl hx hb dX2_P1_3 ?_
  refine lv_iload_n hx hb dX2_P1_4 rfl (lv_at hl 1 rfl) ?_
  refine lv_bipush (v := 17) hx hb dX2_P1_5 (by decide) ?_
  refine lv_iushr (v := ((x).toUInt32 >>> (Int32.toUInt32 17 &&& Int32.toUInt32 31)).toInt32) hx hb dX2_P1_7 rfl ?_
  refine lv_ior hx hb dX2_P1_8 ?_
  refine tp_i (y := rl 15 17 x) (rfl) ?_
  refine lv_istore_n (lv' := [(2, .int (rl 15 17 x)), (0, .ref a), (1, .int (x))]) hx hb dX2_P1_9 rfl hl (by decide) rfl (fun ls hl => ?_)
  refine lv_iload_n hx hb dX2_P1_10 rfl (lv_at hl 2 rfl) ?_
  refine lv_bipush (v := 23) hx hb dX2_P1_11 (by decide) ?_
  refine lv_ishl hx hb dX2_P1_13 ?_
  refine lv_iload_n hx hb dX2_P1_14 rfl (lv_at hl 2 rfl) ?_
  refine lv_bipush (v := 9) hx hb dX2_P1_15 (by decide) ?_
  refine lv_iushr (v := ((x).toUInt32 >>> (Int32.toUInt32 9 &&& Int32.toUInt32 31)).toInt32) hx hb dX2_P1_17 rfl ?_
  refine lv_ior hx hb dX2_P1_18 ?_
  refine tp_i (y := rl 23 9 x) (rfl) ?_
  refine lv_istore_n (lv' := [(3, .int (rl 23 9 x)), (2, .int (rl 15 17 x)), (0, .ref a), (1, .int (x))]) hx hb dX2_P1_19 rfl hl (by decide) rfl (fun ls hl => ?_)
  refine lv_iload_n hx hb dX2_P1_20 rfl (lv_at hl 3 rfl) ?_
  refine lv_iload_n hx hb dX2_P1_21 rfl (lv_at hl 1 rfl) ?_
  refine lv_ixor hx hb dX2_P1_22 ?_
  refine lv_iload_n hx hb dX2_P1_23 rfl (lv_at hl 0 rfl) ?_
  refine lv_ixor hx hb dX2_P1_24 ?_
  exact retP hx hb hr hk (rfl) (rfl) dX2_P1_25
set_option maxHeartbeats 4000000 in
theorem c_X2_FF0 (l : Launch) (G : GG) (a sz : Nat) (x : Int32) (y : Int32) (z : Int32) : CtP l G yX2_FF0 cX2_FF0 4 .int 0 0 [.ref a, .int (x), .int (y), .int (z)] [] sz (fun r => r = (x ^^^ y) ^^^ z) := by
  refine entP "SM3Digest" rfl (by decide +kernel) (Nat.le_of_ble_eq_true rfl) ?_
  intro p e s m below meth c A ls hx hb hr hk hml hsz C h hl
  have hl : lv_has ls 4 [(0, .ref a), (1, .int (x)), (2, .int (y)), (3, .int (z))] := hl
  refine lv_iload_n hx hb dX2_FF0_0 rfl (lv_at hl 1 rfl) ?_
  refine lv_iload_n hx hb dX2_FF0_1 rfl (lv_at hl 2 rfl) ?_
  refine lv_ixor hx hb dX2_FF0_2 ?_
  refine lv_iload_n hx hb dX2_FF0_3 rfl (lv_at hl 3 rfl) ?_
  refine lv_ixor hx hb dX2_FF0_4 ?_
  exact retP hx hb hr hk (rfl) (rfl) dX2_FF0_5
set_option maxHeartbeats 4000000 in
theorem c_X2_GG0 (l : Launch) (G : GG) (a sz : Nat) (x : Int32) (y : Int32) (z : Int32) : CtP l G yX2_GG0 cX2_GG0 4 .int 0 0 [.ref a, .int (x), .int (y), .int (z)] [] sz (fun r => r = (x ^^^ y) ^^^ z) := by
  refine entP "SM3Digest" rfl (by decide +kernel) (Nat.le_of_ble_eq_true rfl) ?_
  intro p e s m below meth c A ls hx hb hr hk hml hsz C h hl
  have hl : lv_has ls 4 [(0, .ref a), (1, .int (x)), (2, .int (y)), (3, .int (z))] := hl
  refine lv_iload_n hx hb dX2_GG0_0 rfl (lv_at hl 1 rfl) ?_
  refine lv_iload_n hx hb dX2_GG0_1 rfl (lv_at hl 2 rfl) ?_
  refine lv_ixor hx hb dX2_GG0_2 ?_
  refine lv_iload_n hx hb dX2_GG0_3 rfl (lv_at hl 3 rfl) ?_
  refine lv_ixor hx hb dX2_GG0_4 ?_
  exact retP hx hb hr hk (rfl) (rfl) dX2_GG0_5
set_option maxHeartbeats 4000000 in
theorem c_X2_FF1 (l : Launch) (G : GG) (a sz : Nat) (x : Int32) (y : Int32) (z : Int32) : CtP l G yX2_FF1 cX2_FF1 4 .int 0 0 [.ref a, .int (x), .int (y), .int (z)] [] sz (fun r => r = ((x &&& y) ||| (x &&& z)) ||| (y &&& z)) := by
  refine entP "SM3Digest" rfl (by decide +kernel) (Nat.le_of_ble_eq_true rfl) ?_
  intro p e s m below meth c A ls hx hb hr hk hml hsz C h hl
  have hl : lv_has ls 4 [(0, .ref a), (1, .int (x)), (2, .int (y)), (3, .int (z))] := hl
  refine lv_iload_n hx hb dX2_FF1_0 rfl (lv_at hl 1 rfl) ?_
  refine lv_iload_n hx hb dX2_FF1_1 rfl (lv_at hl 2 rfl) ?_
  refine lv_iand hx hb dX2_FF1_2 ?_
  refine lv_iload_n hx hb dX2_FF1_3 rfl (lv_at hl 1 rfl) ?_
  refine lv_iload_n hx hb dX2_FF1_4 rfl (lv_at hl 3 rfl) ?_
  refine lv_iand hx hb dX2_FF1_5 ?_
  refine lv_ior hx hb dX2_FF1_6 ?_
  refine lv_iload_n hx hb dX2_FF1_7 rfl (lv_at hl 2 rfl) ?_
  refine lv_iload_n hx hb dX2_FF1_8 rfl (lv_at hl 3 rfl) ?_
  refine lv_iand hx hb dX2_FF1_9 ?_
  refine lv_ior hx hb dX2_FF1_10 ?_
  exact retP hx hb hr hk (rfl) (rfl) dX2_FF1_11
set_option maxHeartbeats 4000000 in
theorem c_X2_GG1 (l : Launch) (G : GG) (a sz : Nat) (x : Int32) (y : Int32) (z : Int32) : CtP l G yX2_GG1 cX2_GG1 4 .int 0 0 [.ref a, .int (x), .int (y), .int (z)] [] sz (fun r => r = (x &&& y) ||| ((x ^^^ (-1)) &&& z)) := by
  refine entP "SM3Digest" rfl (by decide +kernel) (Nat.le_of_ble_eq_true rfl) ?_
  intro p e s m below meth c A ls hx hb hr hk hml hsz C h hl
  have hl : lv_has ls 4 [(0, .ref a), (1, .int (x)), (2, .int (y)), (3, .int (z))] := hl
  refine lv_iload_n hx hb dX2_GG1_0 rfl (lv_at hl 1 rfl) ?_
  refine lv_iload_n hx hb dX2_GG1_1 rfl (lv_at hl 2 rfl) ?_
  refine lv_iand hx hb dX2_GG1_2 ?_
  refine lv_iload_n hx hb dX2_GG1_3 rfl (lv_at hl 1 rfl) ?_
  refine lv_iconst (v := (-1)) hx hb dX2_GG1_4 (by decide) ?_
  refine lv_ixor hx hb dX2_GG1_5 ?_
  refine lv_iload_n hx hb dX2_GG1_6 rfl (lv_at hl 3 rfl) ?_
  refine lv_iand hx hb dX2_GG1_7 ?_
  refine lv_ior hx hb dX2_GG1_8 ?_
  exact retP hx hb hr hk (rfl) (rfl) dX2_GG1_9
set_option maxHeartbeats 4000000 in
/-- Pack.bigEndianToInt: the word of four bytes -/
theorem c_X4_bigEndianToInt (l : Launch) (G : GG) (b n j sz : Nat) (f : Nat → Int32) (hj : j + 3 < n) (hn : n < 2 ^ 31) : CtP l G yX4_bigEndianToInt cX4_bigEndianToInt 3 .int 0 0 [.ref b, .int (nI j)] [aB G b n (f)] sz (fun r => r = be f j) := by
  refine entP "Pack" rfl (by decide +kernel) (Nat.le_of_ble_eq_true rfl) ?_
  intro p e s m below meth c A ls hx hb hr hk hml hsz C h hl
  have hl : lv_has ls 3 [(0, .ref b), (1, .int (nI (j)))] := hl
  refine lv_aload_n hx hb dX4_bigEndianToInt_0 rfl (lv_at hl 0 rfl) ?_
  refine lv_iload_n hx hb dX4_bigEndianToInt_1 rfl (lv_at hl 1 rfl) ?_
  refine g_bld (j := j) hx hb C h 0 rfl (by omega) (hn) dX4_bigEndianToInt_2 ?_
  refine lv_bipush (v := 24) hx hb dX4_bigEndianToInt_3 (by decide) ?_
  refine lv_ishl hx hb dX4_bigEndianToInt_5 ?_
  refine lv_istore_n (lv' := [(2, .int ((f (j)) <<< ((24 : Int32) &&& 31))), (0, .ref b), (1, .int (nI (j)))]) hx hb dX4_bigEndianToInt_6 rfl hl (by decide) rfl (fun ls hl => ?_)
  refine lv_iload_n hx hb dX4_bigEndianToInt_7 rfl (lv_at hl 0 rfl) ?_
  refine lv_aload_n hx hb dX4_bigEndianToInt_8 rfl (lv_at hl 1 rfl) ?_
  refine lv_iinc (v := nI (j + 1)) (lv' := [(1, .int (nI (j + 1))), (2, .int ((f (j)) <<< ((24 : Int32) &&& 31))), (0, .ref b)]) hx hb dX4_bigEndianToInt_9 hl (k := 2) rfl (ii1 (j)) (by decide) rfl (fun ls hl => ?_)
  refine lv_iload_n hx hb dX4_bigEndianToInt_12 rfl (lv_at hl 0 rfl) ?_
  refine g_bld (j := j + 1) hx hb C h 0 rfl (by omega) (hn) dX4_bigEndianToInt_13 ?_
  refine lv_sipush (v := 255) hx hb dX4_bigEndianToInt_14 (by decide) ?_
  refine lv_iand hx hb dX4_bigEndianToInt_17 ?_
  refine lv_bipush (v := 16) hx hb dX4_bigEndianToInt_18 (by decide) ?_
  refine lv_ishl hx hb dX4_bigEndianToInt_20 ?_
  refine lv_ior hx hb dX4_bigEndianToInt_21 ?_
  refine lv_istore_n (lv' := [(2, .int (((f (j)) <<< ((24 : Int32) &&& 31)) ||| (((f (j + 1)) &&& 255) <<< ((16 : Int32) &&& 31)))), (1, .int (nI (j + 1))), (0, .ref b)]) hx hb dX4_bigEndianToInt_22 rfl hl (by decide) rfl (fun ls hl => ?_)
  refine lv_iload_n hx hb dX4_bigEndianToInt_23 rfl (lv_at hl 0 rfl) ?_
  refine lv_aload_n hx hb dX4_bigEndianToInt_24 rfl (lv_at hl 2 rfl) ?_
  refine lv_iinc (v := nI (j + 1 + 1)) (lv' := [(1, .int (nI (j + 1 + 1))), (2, .int (((f (j)) <<< ((24 : Int32) &&& 31)) ||| (((f (j + 1)) &&& 255) <<< ((16 : Int32) &&& 31)))), (0, .ref b)]) hx hb dX4_bigEndianToInt_25 hl (k := 1) rfl (ii1 (j + 1)) (by decide) rfl (fun ls hl => ?_)
  refine lv_iload_n hx hb dX4_bigEndianToInt_28 rfl (lv_at hl 0 rfl) ?_
  refine g_bld (j := j + 1 + 1) hx hb C h 0 rfl (by omega) (hn) dX4_bigEndianToInt_29 ?_
  refine lv_sipush (v := 255) hx hb dX4_bigEndianToInt_30 (by decide) ?_
  refine lv_iand hx hb dX4_bigEndianToInt_33 ?_
  refine lv_bipush (v := 8) hx hb dX4_bigEndianToInt_34 (by decide) ?_
  refine lv_ishl hx hb dX4_bigEndianToInt_36 ?_
  refine lv_ior hx hb dX4_bigEndianToInt_37 ?_
  refine lv_istore_n (lv' := [(2, .int ((((f (j)) <<< ((24 : Int32) &&& 31)) ||| (((f (j + 1)) &&& 255) <<< ((16 : Int32) &&& 31))) ||| (((f (j + 1 + 1)) &&& 255) <<< ((8 : Int32) &&& 31)))), (1, .int (nI (j + 1 + 1))), (0, .ref b)]) hx hb dX4_bigEndianToInt_38 rfl hl (by decide) rfl (fun ls hl => ?_)
  refine lv_iload_n hx hb dX4_bigEndianToInt_39 rfl (lv_at hl 0 rfl) ?_
  refine lv_aload_n hx hb dX4_bigEndianToInt_40 rfl (lv_at hl 2 rfl) ?_
  refine lv_iinc (v := nI (j + 1 + 1 + 1)) (lv' := [(1, .int (nI (j + 1 + 1 + 1))), (2, .int ((((f (j)) <<< ((24 : Int32) &&& 31)) ||| (((f (j + 1)) &&& 255) <<< ((16 : Int32) &&& 31))) ||| (((f (j + 1 + 1)) &&& 255) <<< ((8 : Int32) &&& 31)))), (0, .ref b)]) hx hb dX4_bigEndianToInt_41 hl (k := 1) rfl (ii1 (j + 1 + 1)) (by decide) rfl (fun ls hl => ?_)
  refine lv_iload_n hx hb dX4_bigEndianToInt_44 rfl (lv_at hl 0 rfl) ?_
  refine g_bld (j := j + 1 + 1 + 1) hx hb C h 0 rfl (by omega) (hn) dX4_bigEndianToInt_45 ?_
  refine lv_sipush (v := 255) hx hb dX4_bigEndianToInt_46 (by decide) ?_
  refine lv_iand hx hb dX4_bigEndianToInt_49 ?_
  refine lv_ior hx hb dX4_bigEndianToInt_50 ?_
  refine lv_istore_n (lv' := [(2, .int (((((f (j)) <<< ((24 : Int32) &&& 31)) ||| (((f (j + 1)) &&& 255) <<< ((16 : Int32) &&& 31))) ||| (((f (j + 1 + 1)) &&& 255) <<< ((8 : Int32) &&& 31))) ||| ((f (j + 1 + 1 + 1)) &&& 255))), (1, .int (nI (j + 1 + 1 + 1))), (0, .ref b)]) hx hb dX4_bigEndianToInt_51 rfl hl (by decide) rfl (fun ls hl => ?_)
  refine lv_iload_n hx hb dX4_bigEndianToInt_52 rfl (lv_at hl 0 rfl) ?_
  exact retP hx hb hr hk (rfl) (rfl) dX4_bigEndianToInt_53
def ob4 (f : Nat → Int32) (j : Nat) (x : Int32) : Nat → Int32 := upd (upd (upd (upd f j (ob x 0)) (j + 1) (ob x 1)) (j + 1 + 1) (ob x 2)) (j + 1 + 1 + 1) (ob x 3)
theorem ob_3 (x : Int32) : x.toInt8.toInt32 = ob x 3 := by
  unfold ob
  rw [show (x.toUInt32 >>> (Int32.toUInt32 (nI (24 - 8 * 3)) &&& Int32.toUInt32 31)).toInt32 = x from by
    show (x.toUInt32 >>> ((nI 0).toUInt32 &&& Int32.toUInt32 31)).toInt32 = x
    rw [show ((nI 0).toUInt32 &&& Int32.toUInt32 31) = 0 from by decide +kernel]
    simp]
theorem ob_nar (x : Int32) (r : Nat) : vp_nar .byte (ob x r) = ob x r := pk_vb _
set_option maxHeartbeats 4000000 in
/-- Pack.intToBigEndian of one int: four bytes -/
theorem c_X4_intToBigEndian_2 (l : Launch) (G : GG) (b n j sz : Nat) (f : Nat → Int32) (x : Int32) (hj : j + 3 < n) (hn : n < 2 ^ 31) : CtV l G yX4_intToBigEndian_2 cX4_intToBigEndian_2 3 0 0 0 0 [.int x, .ref b, .int (nI j)] [aB G b n (f)] sz (fun _ : Unit => True) (fun _ => [aB G b n (ob4 f j x)]) := by
  refine entV "Pack" rfl (by decide +kernel) (Nat.le_of_ble_eq_true rfl) ?_
  intro p e s m below meth c A ls hx hb hr hk hml hin hsz C h hl
  have hl : lv_has ls 3 [(0, .int (x)), (1, .ref b), (2, .int (nI (j)))] := hl
  refine lv_aload_n hx hb dX4_intToBigEndian_2_0 rfl (lv_at hl 1 rfl) ?_
  refine lv_iload_n hx hb dX4_intToBigEndian_2_1 rfl (lv_at hl 2 rfl) ?_
  refine lv_iload_n hx hb dX4_intToBigEndian_2_2 rfl (lv_at hl 0 rfl) ?_
  refine lv_bipush (v := 24) hx hb dX4_intToBigEndian_2_3 (by decide) ?_
  refine lv_iushr (v := ((x).toUInt32 >>> (Int32.toUInt32 24 &&& Int32.toUInt32 31)).toInt32) hx hb dX4_intToBigEndian_2_5 rfl ?_
  refine lv_i2b (v := ((((x).toUInt32 >>> (Int32.toUInt32 24 &&& Int32.toUInt32 31)).toInt32)).toInt8.toInt32) hx hb dX4_intToBigEndian_2_6 rfl ?_
  refine tp_i (y := ob x 0) (rfl) ?_
  refine g_bst (j := j) (v := ob x 0) hx hb C h 0 rfl (by omega) (hn) (ob_nar _ _) dX4_intToBigEndian_2_7 (fun H locs h => ?_)
  have h : HS G A s H locs [aB G b n (upd f (j) (ob x 0))] := h
  refine lv_aload_n hx hb dX4_intToBigEndian_2_8 rfl (lv_at hl 1 rfl) ?_
  refine lv_iinc (v := nI (j + 1)) (lv' := [(2, .int (nI (j + 1))), (0, .int (x)), (1, .ref b)]) hx hb dX4_intToBigEndian_2_9 hl (k := 2) rfl (ii1 (j)) (by decide) rfl (fun ls hl => ?_)
  refine lv_iload_n hx hb dX4_intToBigEndian_2_12 rfl (lv_at hl 0 rfl) ?_
  refine lv_iload_n hx hb dX4_intToBigEndian_2_13 rfl (lv_at hl 1 rfl) ?_
  refine lv_bipush (v := 16) hx hb dX4_intToBigEndian_2_14 (by decide) ?_
  refine lv_iushr (v := ((x).toUInt32 >>> (Int32.toUInt32 16 &&& Int32.toUInt32 31)).toInt32) hx hb dX4_intToBigEndian_2_16 rfl ?_
  refine lv_i2b (v := ((((x).toUInt32 >>> (Int32.toUInt32 16 &&& Int32.toUInt32 31)).toInt32)).toInt8.toInt32) hx hb dX4_intToBigEndian_2_17 rfl ?_
  refine tp_i (y := ob x 1) (rfl) ?_
  refine g_bst (j := j + 1) (v := ob x 1) hx hb C h 0 rfl (by omega) (hn) (ob_nar _ _) dX4_intToBigEndian_2_18 (fun H locs h => ?_)
  have h : HS G A s H locs [aB G b n (upd (upd f (j) (ob x 0)) (j + 1) (ob x 1))] := h
  refine lv_aload_n hx hb dX4_intToBigEndian_2_19 rfl (lv_at hl 2 rfl) ?_
  refine lv_iinc (v := nI (j + 1 + 1)) (lv' := [(2, .int (nI (j + 1 + 1))), (0, .int (x)), (1, .ref b)]) hx hb dX4_intToBigEndian_2_20 hl (k := 0) rfl (ii1 (j + 1)) (by decide) rfl (fun ls hl => ?_)
  refine lv_iload_n hx hb dX4_intToBigEndian_2_23 rfl (lv_at hl 0 rfl) ?_
  refine lv_iload_n hx hb dX4_intToBigEndian_2_24 rfl (lv_at hl 1 rfl) ?_
  refine lv_bipush (v := 8) hx hb dX4_intToBigEndian_2_25 (by decide) ?_
  refine lv_iushr (v := ((x).toUInt32 >>> (Int32.toUInt32 8 &&& Int32.toUInt32 31)).toInt32) hx hb dX4_intToBigEndian_2_27 rfl ?_
  refine lv_i2b (v := ((((x).toUInt32 >>> (Int32.toUInt32 8 &&& Int32.toUInt32 31)).toInt32)).toInt8.toInt32) hx hb dX4_intToBigEndian_2_28 rfl ?_
  refine tp_i (y := ob x 2) (rfl) ?_
  refine g_bst (j := j + 1 + 1) (v := ob x 2) hx hb C h 0 rfl (by omega) (hn) (ob_nar _ _) dX4_intToBigEndian_2_29 (fun H locs h => ?_)
  have h : HS G A s H locs [aB G b n (upd (upd (upd f (j) (ob x 0)) (j + 1) (ob x 1)) (j + 1 + 1) (ob x 2))] := h
  refine lv_aload_n hx hb dX4_intToBigEndian_2_30 rfl (lv_at hl 2 rfl) ?_
  refine lv_iinc (v := nI (j + 1 + 1 + 1)) (lv' := [(2, .int (nI (j + 1 + 1 + 1))), (0, .int (x)), (1, .ref b)]) hx hb dX4_intToBigEndian_2_31 hl (k := 0) rfl (ii1 (j + 1 + 1)) (by decide) rfl (fun ls hl => ?_)
  refine lv_iload_n hx hb dX4_intToBigEndian_2_34 rfl (lv_at hl 0 rfl) ?_
  refine lv_iload_n hx hb dX4_intToBigEndian_2_35 rfl (lv_at hl 1 rfl) ?_
  refine lv_i2b (v := (x).toInt8.toInt32) hx hb dX4_intToBigEndian_2_36 rfl ?_
  refine tp_i (y := ob x 3) (ob_3 x) ?_
  refine g_bst (j := j + 1 + 1 + 1) (v := ob x 3) hx hb C h 0 rfl (by omega) (hn) (ob_nar _ _) dX4_intToBigEndian_2_37 (fun H locs h => ?_)
  have h : HS G A s H locs [aB G b n (upd (upd (upd (upd f (j) (ob x 0)) (j + 1) (ob x 1)) (j + 1 + 1) (ob x 2)) (j + 1 + 1 + 1) (ob x 3))] := h
  exact retV hx hb hr hk () h (trivial) dX4_intToBigEndian_2_38
/-- the bytes of eight words, the highest first -/
def obs (v : Nat → Int32) (k : Nat) : Int32 := ob (v (k / 4)) (k % 4)
theorem obs_4 (o v : Nat → Int32) (i : Nat) : ob4 (upk o 0 (obs v) (4 * i)) (4 * i) (v i) = upk o 0 (obs v) (4 * (i + 1)) := by
  have e : ∀ r, r < 4 → obs v (4 * i + r) = ob (v i) r := fun r hr => by
    unfold obs
    rw [show (4 * i + r) / 4 = i by omega, show (4 * i + r) % 4 = r by omega]
  show _ = upd (upd (upd (upd (upk o 0 (obs v) (4 * i)) (0 + (4 * i)) (obs v (4 * i))) (0 + (4 * i + 1)) (obs v (4 * i + 1))) (0 + (4 * i + 2)) (obs v (4 * i + 2))) (0 + (4 * i + 3)) (obs v (4 * i + 3))
  rw [e 1 (by decide), e 2 (by decide), e 3 (by decide), show obs v (4 * i) = ob (v i) 0 from e 0 (by decide), Nat.zero_add, Nat.zero_add, Nat.zero_add, Nat.zero_add]
  rfl
set_option maxHeartbeats 4000000 in
theorem lp_X4_intToBigEndian {p : Program} {l : Launch} {e : Env} {s : State} {m : MethodId} {args : Array Value} {below : List Frame} {meth : Method} {c : Code} {Q : State → Prop} {G : GG} {A : Nat → Prop} (va b n : Nat) (v o : Nat → Int32) (hn : n < 2 ^ 31) (h32 : 32 ≤ n) (hx : p.tables.exec = Jvm.exec) (hb : c.code = cX4_intToBigEndian) (hml : c.maxLocals = 4) (C : CX G A s args m "Pack")
    (kx : ∀ (H : Heap) (locs : List Loc) (ls : Array Slot), HS G A s H locs [aI G va 8 v, aB G b n (upk o 0 (obs v) 32)] → W p l e (rmc 1 22 0 0) s m args below meth c H locs 0 0 Q (F0 m 25 ls [])) :
    ∀ (k i : Nat) (H : Heap) (locs : List Loc) (ls : Array Slot), i + k = 8 → HS G A s H locs [aI G va 8 (v), aB G b n (upk o 0 (obs v) (4 * i))] → lv_has ls 4 [(0, .ref va), (1, .ref b), (2, .int (nI (4 * i))), (3, .int (nI (i)))] → W p l e (rmc 1 22 0 0) s m args below meth c H locs 0 0 Q (F0 m 2 ls []) := by
  intro k
  induction k with
  | zero =>
    intro i H locs ls hi h hl
    obtain rfl : i = 8 := by omega
    refine lv_iload_n hx hb dX4_intToBigEndian_2 rfl (lv_at hl 3 rfl) ?_
    refine lv_aload_n hx hb dX4_intToBigEndian_3 rfl (lv_at hl 0 rfl) ?_
    refine g_ilen hx hb C h 0 rfl dX4_intToBigEndian_4 ?_
    refine lv_icmp_ge (tgt := 25) hx hb dX4_intToBigEndian_5 (by decide) (fun _ => ?_) (fun c_ => absurd (Int32.le_refl _) c_)
    exact kx _ _ _ h
  | succ k ih =>
    intro i H locs ls hi h hl
    refine lv_iload_n hx hb dX4_intToBigEndian_2 rfl (lv_at hl 3 rfl) ?_
    refine lv_aload_n hx hb dX4_intToBigEndian_3 rfl (lv_at hl 0 rfl) ?_
    refine g_ilen hx hb C h 0 rfl dX4_intToBigEndian_4 ?_
    refine lv_icmp_ge (tgt := 25) hx hb dX4_intToBigEndian_5 (by decide) (fun c_ => absurd c_ (nI_ge (a := i) (b := 8) (by omega) (by decide))) (fun _ => ?_)
    refine lv_aload_n hx hb dX4_intToBigEndian_8 rfl (lv_at hl 0 rfl) ?_
    refine lv_iload_n hx hb dX4_intToBigEndian_9 rfl (lv_at hl 3 rfl) ?_
    refine g_ild (j := i) hx hb C h 0 rfl (by omega) (by decide) dX4_intToBigEndian_10 ?_
    refine lv_aload_n hx hb dX4_intToBigEndian_11 rfl (lv_at hl 1 rfl) ?_
    refine lv_iload_n hx hb dX4_intToBigEndian_12 rfl (lv_at hl 2 rfl) ?_
    refine kSv (wr := [aI G va 8 (v)]) (rest := []) (na := 3) hx hb hml C h (c_X4_intToBigEndian_2 l G b n (4 * i) _ (upk o 0 (obs v) (4 * i)) (v i) (by omega) hn) (lw_S q230 q231 q22 q232) (by decide +kernel) rfl ⟨Nat.le_of_ble_eq_true rfl, Nat.le_of_ble_eq_true rfl⟩ [1] (by decide) rfl [0] (by decide) rfl (by decide) hl.1 rfl (Nat.le_of_ble_eq_true rfl) ⟨Nat.le_of_ble_eq_true rfl, Nat.le_of_ble_eq_true rfl⟩ dX4_intToBigEndian_13 (fun u H locs hp h => ?_)
    have h : HS G A s H locs [aI G va 8 (v), aB G b n (ob4 (upk o 0 (obs v) (4 * i)) (4 * i) (v i))] := h
    rw [obs_4] at h
    refine lv_iinc (v := nI (4 * i + 4)) (lv' := [(2, .int (nI (4 * i + 4))), (0, .ref va), (1, .ref b), (3, .int (nI (i)))]) hx hb dX4_intToBigEndian_16 hl (k := 2) rfl (ii4 (4 * i)) (by decide) rfl (fun ls hl => ?_)
    refine lv_iinc (v := nI (i + 1)) (lv' := [(3, .int (nI (i + 1))), (2, .int (nI (4 * i + 4))), (0, .ref va), (1, .ref b)]) hx hb dX4_intToBigEndian_19 hl (k := 3) rfl (ii1 (i)) (by decide) rfl (fun ls hl => ?_)
    refine lv_goto (tgt := 2) hx hb dX4_intToBigEndian_22 (by decide) ?_
    exact ih (i + 1) H locs ls (by omega) h (lv_sub hl [2, 3, 1, 0] rfl)
set_option maxHeartbeats 4000000 in
/-- Pack.intToBigEndian of eight ints: thirty-two bytes -/
theorem c_X4_intToBigEndian (l : Launch) (G : GG) (va b n sz : Nat) (v o : Nat → Int32) (hn : n < 2 ^ 31) (h32 : 32 ≤ n) : CtV l G yX4_intToBigEndian cX4_intToBigEndian 4 1 22 0 0 [.ref va, .ref b, .int (nI 0)] [aI G va 8 (v), aB G b n (o)] sz (fun _ : Unit => True) (fun _ => [aI G va 8 v, aB G b n (upk o 0 (obs v) 32)]) := by
  refine entV "Pack" rfl (by decide +kernel) (Nat.le_of_ble_eq_true rfl) ?_
  intro p e s m below meth c A ls hx hb hr hk hml hin hsz C h hl
  have hl : lv_has ls 4 [(0, .ref va), (1, .ref b), (2, .int (nI 0))] := hl
  refine lv_iconst (v := nI (0)) hx hb dX4_intToBigEndian_0 (by decide) ?_
  refine lv_istore_n (lv' := [(3, .int (nI (0))), (0, .ref va), (1, .ref b), (2, .int (nI 0))]) hx hb dX4_intToBigEndian_1 rfl hl (by decide) rfl (fun ls hl => ?_)
  refine lp_X4_intToBigEndian va b n v o hn h32 hx hb hml C (fun H locs ls h => ?_) 8 0 _ _ ls rfl h (lv_sub hl [1, 2, 3, 0] rfl)
  exact retV hx hb hr hk () h (trivial) dX4_intToBigEndian_25
end
section
/-! SM3Digest.processBlock -/
set_option maxRecDepth 100000
set_option maxHeartbeats 4000000 in
theorem lpA_X2_processBlock {p : Program} {l : Launch} {e : Env} {s : State} {m : MethodId} {args : Array Value} {below : List Frame} {meth : Method} {c : Code} {Q : State → Prop} {G : GG} {A : Nat → Prop} (d pu xb va ia wa : Nat) (xbo xo : Int32) (bc : Int64) (v f : Nat → Int32) (hx : p.tables.exec = Jvm.exec) (hb : c.code = cX2_processBlock) (hml : c.maxLocals = 18) (C : CX G A s args m "SM3Digest")
    (kx : ∀ (w : Nat → Int32) (H : Heap) (locs : List Loc) (ls : Array Slot), (∀ i, i < 16 → w i = f i) → HS G A s H locs [oD d [.ref pu, .ref xb, .int (xbo), .long (bc), .ref va, .ref ia, .int (xo), .ref wa], aI G va 8 (v), aI G ia 16 (f), aI G wa 68 (w)] → lv_has ls 18 [(0, .ref d)] → W p l e (rmc 1 23 0 0) s m args below meth c H locs 0 0 Q (F0 m 26 ls [])) :
    ∀ (k j : Nat) (w : Nat → Int32) (H : Heap) (locs : List Loc) (ls : Array Slot), j + k = 16 → (∀ i, i < j → w i = f i) → HS G A s H locs [oD d [.ref pu, .ref xb, .int (xbo), .long (bc), .ref va, .ref ia, .int (xo), .ref wa], aI G va 8 (v), aI G ia 16 (f), aI G wa 68 (w)] → lv_has ls 18 [(0, .ref d), (1, .int (nI (j)))] → W p l e (rmc 1 23 0 0) s m args below meth c H locs 0 0 Q (F0 m 2 ls []) := by
  intro k
  induction k with
  | zero =>
    intro j w H locs ls hj hw h hl
    obtain rfl : j = 16 := by omega
    refine lv_iload_n hx hb dX2_processBlock_2 rfl (lv_at hl 1 rfl) ?_
    refine lv_bipush (v := nI (16)) hx hb dX2_processBlock_3 (by decide) ?_
    refine lv_icmp_ge (tgt := 26) hx hb dX2_processBlock_5 (by decide) (fun _ => ?_) (fun c_ => absurd (Int32.le_refl _) c_)
    exact kx w H locs ls hw h (lv_sub hl [0] rfl)
  | succ k ih =>
    intro j w H locs ls hj hw h hl
    refine lv_iload_n hx hb dX2_processBlock_2 rfl (lv_at hl 1 rfl) ?_
    refine lv_bipush (v := nI (16)) hx hb dX2_processBlock_3 (by decide) ?_
    refine lv_icmp_ge (tgt := 26) hx hb dX2_processBlock_5 (by decide) (fun c_ => absurd c_ (nI_ge (a := j) (b := 16) (by omega) (by decide))) (fun _ => ?_)
    refine lv_aload_n hx hb dX2_processBlock_8 rfl (lv_at hl 0 rfl) ?_
    refine g_get hx hb C h (ci := 1) in_X2 rfl 0 rfl 7 (by decide) q64 rfl rfl dX2_processBlock_9 ?_
    refine lv_iload_n hx hb dX2_processBlock_12 rfl (lv_at hl 1 rfl) ?_
    refine lv_aload_n hx hb dX2_processBlock_13 rfl (lv_at hl 0 rfl) ?_
    refine g_get hx hb C h (ci := 1) in_X2 rfl 0 rfl 5 (by decide) q62 rfl rfl dX2_processBlock_14 ?_
    refine lv_iload_n hx hb dX2_processBlock_17 rfl (lv_at hl 1 rfl) ?_
    refine g_ild (j := j) hx hb C h 2 rfl (by omega) (by decide) dX2_processBlock_18 ?_
    refine g_ist (j := j) hx hb C h 3 rfl (by omega) (by decide) dX2_processBlock_19 (fun H locs h => ?_)
    have h : HS G A s H locs [oD d [.ref pu, .ref xb, .int (xbo), .long (bc), .ref va, .ref ia, .int (xo), .ref wa], aI G va 8 (v), aI G ia 16 (f), aI G wa 68 (upd w (j) (f (j)))] := h
    refine lv_iinc (v := nI (j + 1)) (lv' := [(1, .int (nI (j + 1))), (0, .ref d)]) hx hb dX2_processBlock_20 hl (k := 1) rfl (ii1 (j)) (by decide) rfl (fun ls hl => ?_)
    refine lv_goto (tgt := 2) hx hb dX2_processBlock_23 (by decide) ?_
    exact ih (j + 1) (upd w j (f j)) H locs ls (by omega) (lt_s (fun i hi => (pk_un (by omega)).trans (hw i hi)) pk_us) h (lv_sub hl [1, 0] rfl)
set_option maxHeartbeats 4000000 in
theorem lpB_X2_processBlock {p : Program} {l : Launch} {e : Env} {s : State} {m : MethodId} {args : Array Value} {below : List Frame} {meth : Method} {c : Code} {Q : State → Prop} {G : GG} {A : Nat → Prop} (d pu xb va ia wa : Nat) (xbo xo : Int32) (bc : Int64) (v f : Nat → Int32) (hx : p.tables.exec = Jvm.exec) (hb : c.code = cX2_processBlock) (hml : c.maxLocals = 18) (C : CX G A s args m "SM3Digest")
    (kx : ∀ (w : Nat → Int32) (H : Heap) (locs : List Loc) (ls : Array Slot), (∀ i, i < 68 → w i = sWc f i) → HS G A s H locs [oD d [.ref pu, .ref xb, .int (xbo), .long (bc), .ref va, .ref ia, .int (xo), .ref wa], aI G va 8 (v), aI G ia 16 (f), aI G wa 68 (w)] → lv_has ls 18 [(0, .ref d)] → W p l e (rmc 1 23 0 0) s m args below meth c H locs 0 0 Q (F0 m 128 ls [])) :
    ∀ (k j : Nat) (w : Nat → Int32) (H : Heap) (locs : List Loc) (ls : Array Slot), 16 ≤ j → j + k = 68 → (∀ i, i < j → w i = sWc f i) → HS G A s H locs [oD d [.ref pu, .ref xb, .int (xbo), .long (bc), .ref va, .ref ia, .int (xo), .ref wa], aI G va 8 (v), aI G ia 16 (f), aI G wa 68 (w)] → lv_has ls 18 [(0, .ref d), (1, .int (nI (j)))] → W p l e (rmc 1 23 0 0) s m args below meth c H locs 0 0 Q (F0 m 29 ls []) := by
  intro k
  induction k with
  | zero =>
    intro j w H locs ls h16 hj hw h hl
    obtain rfl : j = 68 := by omega
    refine lv_iload_n hx hb dX2_processBlock_29 rfl (lv_at hl 1 rfl) ?_
    refine lv_bipush (v := nI (68)) hx hb dX2_processBlock_30 (by decide) ?_
    refine lv_icmp_ge (tgt := 128) hx hb dX2_processBlock_32 (by decide) (fun _ => ?_) (fun c_ => absurd (Int32.le_refl _) c_)
    exact kx w H locs ls hw h (lv_sub hl [0] rfl)
  | succ k ih =>
    intro j w H locs ls h16 hj hw h hl
    refine lv_iload_n hx hb dX2_processBlock_29 rfl (lv_at hl 1 rfl) ?_
    refine lv_bipush (v := nI (68)) hx hb dX2_processBlock_30 (by decide) ?_
    refine lv_icmp_ge (tgt := 128) hx hb dX2_processBlock_32 (by decide) (fun c_ => absurd c_ (nI_ge (a := j) (b := 68) (by omega) (by decide))) (fun _ => ?_)
    refine lv_aload_n hx hb dX2_processBlock_35 rfl (lv_at hl 0 rfl) ?_
    refine g_get hx hb C h (ci := 1) in_X2 rfl 0 rfl 7 (by decide) q64 rfl rfl dX2_processBlock_36 ?_
    refine lv_iload_n hx hb dX2_processBlock_39 rfl (lv_at hl 1 rfl) ?_
    refine lv_iconst (v := nI (3)) hx hb dX2_processBlock_40 (by decide) ?_
    refine lv_isub hx hb dX2_processBlock_41 ?_
    refine tp_i (y := nI (j - 3)) (pk_sub (a := j) (b := 3) (by omega)) ?_
    refine g_ild (j := j - 3) hx hb C h 3 rfl (by omega) (by decide) dX2_processBlock_42 ?_
    refine lv_istore_n (lv' := [(2, .int (w (j - 3))), (0, .ref d), (1, .int (nI (j)))]) hx hb dX2_processBlock_43 rfl hl (by decide) rfl (fun ls hl => ?_)
    refine lv_iload_n hx hb dX2_processBlock_44 rfl (lv_at hl 0 rfl) ?_
    refine lv_bipush (v := 15) hx hb dX2_processBlock_45 (by decide) ?_
    refine lv_ishl hx hb dX2_processBlock_47 ?_
    refine lv_iload_n hx hb dX2_processBlock_48 rfl (lv_at hl 0 rfl) ?_
    refine lv_bipush (v := 17) hx hb dX2_processBlock_49 (by decide) ?_
    refine lv_iushr (v := (((w (j - 3))).toUInt32 >>> (Int32.toUInt32 17 &&& Int32.toUInt32 31)).toInt32) hx hb dX2_processBlock_51 rfl ?_
    refine lv_ior hx hb dX2_processBlock_52 ?_
    refine tp_i (y := rl 15 17 (w (j - 3))) (rfl) ?_
    refine lv_istore_n (lv' := [(3, .int (rl 15 17 (w (j - 3)))), (2, .int (w (j - 3))), (0, .ref d), (1, .int (nI (j)))]) hx hb dX2_processBlock_53 rfl hl (by decide) rfl (fun ls hl => ?_)
    refine lv_aload_n hx hb dX2_processBlock_54 rfl (lv_at hl 2 rfl) ?_
    refine g_get hx hb C h (ci := 1) in_X2 rfl 0 rfl 7 (by decide) q64 rfl rfl dX2_processBlock_55 ?_
    refine lv_iload_n hx hb dX2_processBlock_58 rfl (lv_at hl 3 rfl) ?_
    refine lv_bipush (v := nI (13)) hx hb dX2_processBlock_59 (by decide) ?_
    refine lv_isub hx hb dX2_processBlock_61 ?_
    refine tp_i (y := nI (j - 13)) (pk_sub (a := j) (b := 13) (by omega)) ?_
    refine g_ild (j := j - 13) hx hb C h 3 rfl (by omega) (by decide) dX2_processBlock_62 ?_
    refine lv_istore (lv' := [(4, .int (w (j - 13))), (3, .int (rl 15 17 (w (j - 3)))), (2, .int (w (j - 3))), (0, .ref d), (1, .int (nI (j)))]) hx hb dX2_processBlock_63 hl (by decide) rfl (fun ls hl => ?_)
    refine lv_iload hx hb dX2_processBlock_65 (lv_at hl 0 rfl) ?_
    refine lv_bipush (v := 7) hx hb dX2_processBlock_67 (by decide) ?_
    refine lv_ishl hx hb dX2_processBlock_69 ?_
    refine lv_iload hx hb dX2_processBlock_70 (lv_at hl 0 rfl) ?_
    refine lv_bipush (v := 25) hx hb dX2_processBlock_72 (by decide) ?_
    refine lv_iushr (v := (((w (j - 13))).toUInt32 >>> (Int32.toUInt32 25 &&& Int32.toUInt32 31)).toInt32) hx hb dX2_processBlock_74 rfl ?_
    refine lv_ior hx hb dX2_processBlock_75 ?_
    refine tp_i (y := rl 7 25 (w (j - 13))) (rfl) ?_
    refine lv_istore (lv' := [(5, .int (rl 7 25 (w (j - 13)))), (4, .int (w (j - 13))), (3, .int (rl 15 17 (w (j - 3)))), (2, .int (w (j - 3))), (0, .ref d), (1, .int (nI (j)))]) hx hb dX2_processBlock_76 hl (by decide) rfl (fun ls hl => ?_)
    refine lv_aload_n hx hb dX2_processBlock_78 rfl (lv_at hl 4 rfl) ?_
    refine g_get hx hb C h (ci := 1) in_X2 rfl 0 rfl 7 (by decide) q64 rfl rfl dX2_processBlock_79 ?_
    refine lv_iload_n hx hb dX2_processBlock_82 rfl (lv_at hl 5 rfl) ?_
    refine lv_aload_n hx hb dX2_processBlock_83 rfl (lv_at hl 4 rfl) ?_
    refine lv_aload_n hx hb dX2_processBlock_84 rfl (lv_at hl 4 rfl) ?_
    refine g_get hx hb C h (ci := 1) in_X2 rfl 0 rfl 7 (by decide) q64 rfl rfl dX2_processBlock_85 ?_
    refine lv_iload_n hx hb dX2_processBlock_88 rfl (lv_at hl 5 rfl) ?_
    refine lv_bipush (v := nI (16)) hx hb dX2_processBlock_89 (by decide) ?_
    refine lv_isub hx hb dX2_processBlock_91 ?_
    refine tp_i (y := nI (j - 16)) (pk_sub (a := j) (b := 16) (by omega)) ?_
    refine g_ild (j := j - 16) hx hb C h 3 rfl (by omega) (by decide) dX2_processBlock_92 ?_
    refine lv_aload_n hx hb dX2_processBlock_93 rfl (lv_at hl 4 rfl) ?_
    refine g_get hx hb C h (ci := 1) in_X2 rfl 0 rfl 7 (by decide) q64 rfl rfl dX2_processBlock_94 ?_
    refine lv_iload_n hx hb dX2_processBlock_97 rfl (lv_at hl 5 rfl) ?_
    refine lv_bipush (v := nI (9)) hx hb dX2_processBlock_98 (by decide) ?_
    refine lv_isub hx hb dX2_processBlock_100 ?_
    refine tp_i (y := nI (j - 9)) (pk_sub (a := j) (b := 9) (by omega)) ?_
    refine g_ild (j := j - 9) hx hb C h 3 rfl (by omega) (by decide) dX2_processBlock_101 ?_
    refine lv_ixor hx hb dX2_processBlock_102 ?_
    refine lv_iload_n hx hb dX2_processBlock_103 rfl (lv_at hl 2 rfl) ?_
    refine lv_ixor hx hb dX2_processBlock_104 ?_
    refine kVp (Cn := "SM3Digest") (rest := [.int (nI (j)), .ref wa]) (na := 1) hx hb hml C h (c_X2_P1 l G d _ (((w (j - 16)) ^^^ (w (j - 9))) ^^^ (rl 15 17 (w (j - 3))))) (lw_V q158 q160 qs3 q17 q161) (by decide +kernel) rfl ⟨Nat.le_of_ble_eq_true rfl, Nat.le_of_ble_eq_true rfl⟩ 0 rfl rfl rfl [] (by decide) rfl hl.1 rfl (Nat.le_of_ble_eq_true rfl) ⟨Nat.le_of_ble_eq_true rfl, Nat.le_of_ble_eq_true rfl⟩ dX2_processBlock_105 (fun r_108 hp => ?_)
    obtain rfl : r_108 = sP1 (((w (j - 16)) ^^^ (w (j - 9))) ^^^ (rl 15 17 (w (j - 3)))) := hp
    refine lv_iload hx hb dX2_processBlock_108 (lv_at hl 0 rfl) ?_
    refine lv_ixor hx hb dX2_processBlock_110 ?_
    refine lv_aload_n hx hb dX2_processBlock_111 rfl (lv_at hl 4 rfl) ?_
    refine g_get hx hb C h (ci := 1) in_X2 rfl 0 rfl 7 (by decide) q64 rfl rfl dX2_processBlock_112 ?_
    refine lv_iload_n hx hb dX2_processBlock_115 rfl (lv_at hl 5 rfl) ?_
    refine lv_bipush (v := nI (6)) hx hb dX2_processBlock_116 (by decide) ?_
    refine lv_isub hx hb dX2_processBlock_118 ?_
    refine tp_i (y := nI (j - 6)) (pk_sub (a := j) (b := 6) (by omega)) ?_
    refine g_ild (j := j - 6) hx hb C h 3 rfl (by omega) (by decide) dX2_processBlock_119 ?_
    refine lv_ixor hx hb dX2_processBlock_120 ?_
    refine tp_i (y := sWc f j) ((show _ = sSt w j from rfl).trans ((sSt_congr h16 hw).trans (sWc_hi h16).symm)) ?_
    refine g_ist (j := j) hx hb C h 3 rfl (by omega) (by decide) dX2_processBlock_121 (fun H locs h => ?_)
    have h : HS G A s H locs [oD d [.ref pu, .ref xb, .int (xbo), .long (bc), .ref va, .ref ia, .int (xo), .ref wa], aI G va 8 (v), aI G ia 16 (f), aI G wa 68 (upd w (j) (sWc f j))] := h
    refine lv_iinc (v := nI (j + 1)) (lv' := [(1, .int (nI (j + 1))), (5, .int (rl 7 25 (w (j - 13)))), (4, .int (w (j - 13))), (3, .int (rl 15 17 (w (j - 3)))), (2, .int (w (j - 3))), (0, .ref d)]) hx hb dX2_processBlock_122 hl (k := 5) rfl (ii1 (j)) (by decide) rfl (fun ls hl => ?_)
    refine lv_goto (tgt := 29) hx hb dX2_processBlock_125 (by decide) ?_
    exact ih (j + 1) (upd w j (sWc f j)) H locs ls (by omega) (by omega) (lt_s (fun i hi => (pk_un (by omega)).trans (hw i hi)) pk_us) h (lv_sub hl [5, 0] rfl)
set_option maxHeartbeats 4000000 in
theorem lpC_X2_processBlock {p : Program} {l : Launch} {e : Env} {s : State} {m : MethodId} {args : Array Value} {below : List Frame} {meth : Method} {c : Code} {Q : State → Prop} {G : GG} {A : Nat → Prop} (d pu xb va ia wa : Nat) (xbo xo : Int32) (bc : Int64) (v f : Nat → Int32) (hx : p.tables.exec = Jvm.exec) (hb : c.code = cX2_processBlock) (hml : c.maxLocals = 18) (C : CX G A s args m "SM3Digest") (w : Nat → Int32)
    (kx : ∀ (xa xb1 xc xd xe xf xg xh : Int32) (H : Heap) (locs : List Loc) (ls : Array Slot), (xa, xb1, xc, xd, xe, xf, xg, xh) = rnds w 16 (v8 v) → HS G A s H locs [oD d [.ref pu, .ref xb, .int (xbo), .long (bc), .ref va, .ref ia, .int (xo), .ref wa], aI G va 8 (v), aI G ia 16 (f), aI G wa 68 (w)] → lv_has ls 18 [(0, .ref d), (1, .int (xa)), (2, .int (xb1)), (3, .int (xc)), (4, .int (xd)), (5, .int (xe)), (6, .int (xf)), (7, .int (xg)), (8, .int (xh))] → W p l e (rmc 1 23 0 0) s m args below meth c H locs 0 0 Q (F0 m 361 ls [])) :
    ∀ (k j : Nat) (xa xb1 xc xd xe xf xg xh : Int32) (H : Heap) (locs : List Loc) (ls : Array Slot), 0 ≤ j → j + k = 16 → (xa, xb1, xc, xd, xe, xf, xg, xh) = rnds w j (v8 v) → HS G A s H locs [oD d [.ref pu, .ref xb, .int (xbo), .long (bc), .ref va, .ref ia, .int (xo), .ref wa], aI G va 8 (v), aI G ia 16 (f), aI G wa 68 (w)] → lv_has ls 18 [(9, .int (nI (j))), (0, .ref d), (1, .int (xa)), (2, .int (xb1)), (3, .int (xc)), (4, .int (xd)), (5, .int (xe)), (6, .int (xf)), (7, .int (xg)), (8, .int (xh))] → W p l e (rmc 1 23 0 0) s m args below meth c H locs 0 0 Q (F0 m 194 ls []) := by
  intro k
  induction k with
  | zero =>
    intro j xa xb1 xc xd xe xf xg xh H locs ls h16 hj hw h hl
    obtain rfl : j = 16 := by omega
    refine lv_iload hx hb dX2_processBlock_194 (lv_at hl 0 rfl) ?_
    refine lv_bipush (v := nI (16)) hx hb dX2_processBlock_196 (by decide) ?_
    refine lv_icmp_ge (tgt := 361) hx hb dX2_processBlock_198 (by decide) (fun _ => ?_) (fun c_ => absurd (Int32.le_refl _) c_)
    exact kx xa xb1 xc xd xe xf xg xh H locs ls hw h (lv_sub hl [1, 2, 3, 4, 5, 6, 7, 8, 9] rfl)
  | succ k ih =>
    intro j xa xb1 xc xd xe xf xg xh H locs ls h16 hj hw h hl
    refine lv_iload hx hb dX2_processBlock_194 (lv_at hl 0 rfl) ?_
    refine lv_bipush (v := nI (16)) hx hb dX2_processBlock_196 (by decide) ?_
    refine lv_icmp_ge (tgt := 361) hx hb dX2_processBlock_198 (by decide) (fun c_ => absurd c_ (nI_ge (a := j) (b := 16) (by omega) (by decide))) (fun _ => ?_)
    refine lv_iload_n hx hb dX2_processBlock_201 rfl (lv_at hl 2 rfl) ?_
    refine lv_bipush (v := 12) hx hb dX2_processBlock_202 (by decide) ?_
    refine lv_ishl hx hb dX2_processBlock_204 ?_
    refine lv_iload_n hx hb dX2_processBlock_205 rfl (lv_at hl 2 rfl) ?_
    refine lv_bipush (v := 20) hx hb dX2_processBlock_206 (by decide) ?_
    refine lv_iushr (v := ((xa).toUInt32 >>> (Int32.toUInt32 20 &&& Int32.toUInt32 31)).toInt32) hx hb dX2_processBlock_208 rfl ?_
    refine lv_ior hx hb dX2_processBlock_209 ?_
    refine tp_i (y := rl 12 20 xa) (rfl) ?_
    refine lv_istore (lv' := [(10, .int (rl 12 20 xa)), (9, .int (nI (j))), (0, .ref d), (1, .int (xa)), (2, .int (xb1)), (3, .int (xc)), (4, .int (xd)), (5, .int (xe)), (6, .int (xf)), (7, .int (xg)), (8, .int (xh))]) hx hb dX2_processBlock_210 hl (by decide) rfl (fun ls hl => ?_)
    refine lv_iload hx hb dX2_processBlock_212 (lv_at hl 0 rfl) ?_
    refine lv_iload hx hb dX2_processBlock_214 (lv_at hl 7 rfl) ?_
    refine lv_iadd hx hb dX2_processBlock_216 ?_
    refine g_T hx hb C h q162 rfl dX2_processBlock_217 ?_
    refine lv_iload hx hb dX2_processBlock_220 (lv_at hl 1 rfl) ?_
    refine g_tld (j := j) hx hb C h (by omega) dX2_processBlock_222 ?_
    refine lv_iadd hx hb dX2_processBlock_223 ?_
    refine tp_i (y := (rl 12 20 xa + xe) + sT (j)) (rfl) ?_
    refine lv_istore (lv' := [(11, .int ((rl 12 20 xa + xe) + sT (j))), (10, .int (rl 12 20 xa)), (9, .int (nI (j))), (0, .ref d), (1, .int (xa)), (2, .int (xb1)), (3, .int (xc)), (4, .int (xd)), (5, .int (xe)), (6, .int (xf)), (7, .int (xg)), (8, .int (xh))]) hx hb dX2_processBlock_224 hl (by decide) rfl (fun ls hl => ?_)
    refine lv_iload hx hb dX2_processBlock_226 (lv_at hl 0 rfl) ?_
    refine lv_bipush (v := 7) hx hb dX2_processBlock_228 (by decide) ?_
    refine lv_ishl hx hb dX2_processBlock_230 ?_
    refine lv_iload hx hb dX2_processBlock_231 (lv_at hl 0 rfl) ?_
    refine lv_bipush (v := 25) hx hb dX2_processBlock_233 (by decide) ?_
    refine lv_iushr (v := ((((rl 12 20 xa + xe) + sT (j))).toUInt32 >>> (Int32.toUInt32 25 &&& Int32.toUInt32 31)).toInt32) hx hb dX2_processBlock_235 rfl ?_
    refine lv_ior hx hb dX2_processBlock_236 ?_
    refine tp_i (y := rl 7 25 ((rl 12 20 xa + xe) + sT (j))) (rfl) ?_
    refine lv_istore (lv' := [(12, .int (rl 7 25 ((rl 12 20 xa + xe) + sT (j)))), (11, .int ((rl 12 20 xa + xe) + sT (j))), (10, .int (rl 12 20 xa)), (9, .int (nI (j))), (0, .ref d), (1, .int (xa)), (2, .int (xb1)), (3, .int (xc)), (4, .int (xd)), (5, .int (xe)), (6, .int (xf)), (7, .int (xg)), (8, .int (xh))]) hx hb dX2_processBlock_237 hl (by decide) rfl (fun ls hl => ?_)
    refine lv_iload hx hb dX2_processBlock_239 (lv_at hl 0 rfl) ?_
    refine lv_iload hx hb dX2_processBlock_241 (lv_at hl 2 rfl) ?_
    refine lv_ixor hx hb dX2_processBlock_243 ?_
    refine lv_istore (lv' := [(13, .int ((rl 7 25 ((rl 12 20 xa + xe) + sT (j))) ^^^ (rl 12 20 xa))), (12, .int (rl 7 25 ((rl 12 20 xa + xe) + sT (j)))), (11, .int ((rl 12 20 xa + xe) + sT (j))), (10, .int (rl 12 20 xa)), (9, .int (nI (j))), (0, .ref d), (1, .int (xa)), (2, .int (xb1)), (3, .int (xc)), (4, .int (xd)), (5, .int (xe)), (6, .int (xf)), (7, .int (xg)), (8, .int (xh))]) hx hb dX2_processBlock_244 hl (by decide) rfl (fun ls hl => ?_)
    refine lv_aload_n hx hb dX2_processBlock_246 rfl (lv_at hl 5 rfl) ?_
    refine g_get hx hb C h (ci := 1) in_X2 rfl 0 rfl 7 (by decide) q64 rfl rfl dX2_processBlock_247 ?_
    refine lv_iload hx hb dX2_processBlock_250 (lv_at hl 4 rfl) ?_
    refine g_ild (j := j) hx hb C h 3 rfl (by omega) (by decide) dX2_processBlock_252 ?_
    refine lv_istore (lv' := [(14, .int (w (j))), (13, .int ((rl 7 25 ((rl 12 20 xa + xe) + sT (j))) ^^^ (rl 12 20 xa))), (12, .int (rl 7 25 ((rl 12 20 xa + xe) + sT (j)))), (11, .int ((rl 12 20 xa + xe) + sT (j))), (10, .int (rl 12 20 xa)), (9, .int (nI (j))), (0, .ref d), (1, .int (xa)), (2, .int (xb1)), (3, .int (xc)), (4, .int (xd)), (5, .int (xe)), (6, .int (xf)), (7, .int (xg)), (8, .int (xh))]) hx hb dX2_processBlock_253 hl (by decide) rfl (fun ls hl => ?_)
    refine lv_iload hx hb dX2_processBlock_255 (lv_at hl 0 rfl) ?_
    refine lv_aload_n hx hb dX2_processBlock_257 rfl (lv_at hl 6 rfl) ?_
    refine g_get hx hb C h (ci := 1) in_X2 rfl 0 rfl 7 (by decide) q64 rfl rfl dX2_processBlock_258 ?_
    refine lv_iload hx hb dX2_processBlock_261 (lv_at hl 5 rfl) ?_
    refine lv_iconst (v := nI (4)) hx hb dX2_processBlock_263 (by decide) ?_
    refine lv_iadd hx hb dX2_processBlock_264 ?_
    refine tp_i (y := nI (j + 4)) (nI_add (j) (4)) ?_
    refine g_ild (j := j + 4) hx hb C h 3 rfl (by omega) (by decide) dX2_processBlock_265 ?_
    refine lv_ixor hx hb dX2_processBlock_266 ?_
    refine lv_istore (lv' := [(15, .int ((w (j)) ^^^ (w (j + 4)))), (14, .int (w (j))), (13, .int ((rl 7 25 ((rl 12 20 xa + xe) + sT (j))) ^^^ (rl 12 20 xa))), (12, .int (rl 7 25 ((rl 12 20 xa + xe) + sT (j)))), (11, .int ((rl 12 20 xa + xe) + sT (j))), (10, .int (rl 12 20 xa)), (9, .int (nI (j))), (0, .ref d), (1, .int (xa)), (2, .int (xb1)), (3, .int (xc)), (4, .int (xd)), (5, .int (xe)), (6, .int (xf)), (7, .int (xg)), (8, .int (xh))]) hx hb dX2_processBlock_267 hl (by decide) rfl (fun ls hl => ?_)
    refine lv_aload_n hx hb dX2_processBlock_269 rfl (lv_at hl 7 rfl) ?_
    refine lv_iload_n hx hb dX2_processBlock_270 rfl (lv_at hl 8 rfl) ?_
    refine lv_iload_n hx hb dX2_processBlock_271 rfl (lv_at hl 9 rfl) ?_
    refine lv_iload_n hx hb dX2_processBlock_272 rfl (lv_at hl 10 rfl) ?_
    refine kVp (Cn := "SM3Digest") (rest := []) (na := 3) hx hb hml C h (c_X2_FF0 l G d _ xa xb1 xc) (lw_V q164 q166 qs4 q17 q167) (by decide +kernel) rfl ⟨Nat.le_of_ble_eq_true rfl, Nat.le_of_ble_eq_true rfl⟩ 0 rfl rfl rfl [] (by decide) rfl hl.1 rfl (Nat.le_of_ble_eq_true rfl) ⟨Nat.le_of_ble_eq_true rfl, Nat.le_of_ble_eq_true rfl⟩ dX2_processBlock_273 (fun r_276 hp => ?_)
    obtain rfl : r_276 = sFF j xa xb1 xc := hp.trans (if_pos (by omega)).symm
    refine lv_iload hx hb dX2_processBlock_276 (lv_at hl 11 rfl) ?_
    refine lv_iadd hx hb dX2_processBlock_278 ?_
    refine lv_iload hx hb dX2_processBlock_279 (lv_at hl 2 rfl) ?_
    refine lv_iadd hx hb dX2_processBlock_281 ?_
    refine lv_iload hx hb dX2_processBlock_282 (lv_at hl 0 rfl) ?_
    refine lv_iadd hx hb dX2_processBlock_284 ?_
    refine tp_i (y := rA w j xa xb1 xc xd xe) (rfl) ?_
    refine lv_istore (lv' := [(16, .int (rA w j xa xb1 xc xd xe)), (15, .int ((w (j)) ^^^ (w (j + 4)))), (14, .int (w (j))), (13, .int ((rl 7 25 ((rl 12 20 xa + xe) + sT (j))) ^^^ (rl 12 20 xa))), (12, .int (rl 7 25 ((rl 12 20 xa + xe) + sT (j)))), (11, .int ((rl 12 20 xa + xe) + sT (j))), (10, .int (rl 12 20 xa)), (9, .int (nI (j))), (0, .ref d), (1, .int (xa)), (2, .int (xb1)), (3, .int (xc)), (4, .int (xd)), (5, .int (xe)), (6, .int (xf)), (7, .int (xg)), (8, .int (xh))]) hx hb dX2_processBlock_285 hl (by decide) rfl (fun ls hl => ?_)
    refine lv_aload_n hx hb dX2_processBlock_287 rfl (lv_at hl 8 rfl) ?_
    refine lv_iload hx hb dX2_processBlock_288 (lv_at hl 13 rfl) ?_
    refine lv_iload hx hb dX2_processBlock_290 (lv_at hl 14 rfl) ?_
    refine lv_iload hx hb dX2_processBlock_292 (lv_at hl 15 rfl) ?_
    refine kVp (Cn := "SM3Digest") (rest := []) (na := 3) hx hb hml C h (c_X2_GG0 l G d _ xe xf xg) (lw_V q168 q170 qs5 q17 q171) (by decide +kernel) rfl ⟨Nat.le_of_ble_eq_true rfl, Nat.le_of_ble_eq_true rfl⟩ 0 rfl rfl rfl [] (by decide) rfl hl.1 rfl (Nat.le_of_ble_eq_true rfl) ⟨Nat.le_of_ble_eq_true rfl, Nat.le_of_ble_eq_true rfl⟩ dX2_processBlock_294 (fun r_297 hp => ?_)
    obtain rfl : r_297 = sGG j xe xf xg := hp.trans (if_pos (by omega)).symm
    refine lv_iload hx hb dX2_processBlock_297 (lv_at hl 16 rfl) ?_
    refine lv_iadd hx hb dX2_processBlock_299 ?_
    refine lv_iload hx hb dX2_processBlock_300 (lv_at hl 4 rfl) ?_
    refine lv_iadd hx hb dX2_processBlock_302 ?_
    refine lv_iload hx hb dX2_processBlock_303 (lv_at hl 2 rfl) ?_
    refine lv_iadd hx hb dX2_processBlock_305 ?_
    refine tp_i (y := rE w j xa xe xf xg xh) (rfl) ?_
    refine lv_istore (lv' := [(17, .int (rE w j xa xe xf xg xh)), (16, .int (rA w j xa xb1 xc xd xe)), (15, .int ((w (j)) ^^^ (w (j + 4)))), (14, .int (w (j))), (13, .int ((rl 7 25 ((rl 12 20 xa + xe) + sT (j))) ^^^ (rl 12 20 xa))), (12, .int (rl 7 25 ((rl 12 20 xa + xe) + sT (j)))), (11, .int ((rl 12 20 xa + xe) + sT (j))), (10, .int (rl 12 20 xa)), (9, .int (nI (j))), (0, .ref d), (1, .int (xa)), (2, .int (xb1)), (3, .int (xc)), (4, .int (xd)), (5, .int (xe)), (6, .int (xf)), (7, .int (xg)), (8, .int (xh))]) hx hb dX2_processBlock_306 hl (by decide) rfl (fun ls hl => ?_)
    refine lv_iload_n hx hb dX2_processBlock_308 rfl (lv_at hl 12 rfl) ?_
    refine lv_istore (lv' := [(4, .int (xc)), (17, .int (rE w j xa xe xf xg xh)), (16, .int (rA w j xa xb1 xc xd xe)), (15, .int ((w (j)) ^^^ (w (j + 4)))), (14, .int (w (j))), (13, .int ((rl 7 25 ((rl 12 20 xa + xe) + sT (j))) ^^^ (rl 12 20 xa))), (12, .int (rl 7 25 ((rl 12 20 xa + xe) + sT (j)))), (11, .int ((rl 12 20 xa + xe) + sT (j))), (10, .int (rl 12 20 xa)), (9, .int (nI (j))), (0, .ref d), (1, .int (xa)), (2, .int (xb1)), (3, .int (xc)), (5, .int (xe)), (6, .int (xf)), (7, .int (xg)), (8, .int (xh))]) hx hb dX2_processBlock_309 hl (by decide) rfl (fun ls hl => ?_)
    refine lv_iload_n hx hb dX2_processBlock_311 rfl (lv_at hl 12 rfl) ?_
    refine lv_bipush (v := 9) hx hb dX2_processBlock_312 (by decide) ?_
    refine lv_ishl hx hb dX2_processBlock_314 ?_
    refine lv_iload_n hx hb dX2_processBlock_315 rfl (lv_at hl 12 rfl) ?_
    refine lv_bipush (v := 23) hx hb dX2_processBlock_316 (by decide) ?_
    refine lv_iushr (v := ((xb1).toUInt32 >>> (Int32.toUInt32 23 &&& Int32.toUInt32 31)).toInt32) hx hb dX2_processBlock_318 rfl ?_
    refine lv_ior hx hb dX2_processBlock_319 ?_
    refine tp_i (y := rl 9 23 xb1) (rfl) ?_
    refine lv_istore_n (lv' := [(3, .int (rl 9 23 xb1)), (4, .int (xc)), (17, .int (rE w j xa xe xf xg xh)), (16, .int (rA w j xa xb1 xc xd xe)), (15, .int ((w (j)) ^^^ (w (j + 4)))), (14, .int (w (j))), (13, .int ((rl 7 25 ((rl 12 20 xa + xe) + sT (j))) ^^^ (rl 12 20 xa))), (12, .int (rl 7 25 ((rl 12 20 xa + xe) + sT (j)))), (11, .int ((rl 12 20 xa + xe) + sT (j))), (10, .int (rl 12 20 xa)), (9, .int (nI (j))), (0, .ref d), (1, .int (xa)), (2, .int (xb1)), (5, .int (xe)), (6, .int (xf)), (7, .int (xg)), (8, .int (xh))]) hx hb dX2_processBlock_320 rfl hl (by decide) rfl (fun ls hl => ?_)
    refine lv_iload_n hx hb dX2_processBlock_321 rfl (lv_at hl 12 rfl) ?_
    refine lv_istore_n (lv' := [(2, .int (xa)), (3, .int (rl 9 23 xb1)), (4, .int (xc)), (17, .int (rE w j xa xe xf xg xh)), (16, .int (rA w j xa xb1 xc xd xe)), (15, .int ((w (j)) ^^^ (w (j + 4)))), (14, .int (w (j))), (13, .int ((rl 7 25 ((rl 12 20 xa + xe) + sT (j))) ^^^ (rl 12 20 xa))), (12, .int (rl 7 25 ((rl 12 20 xa + xe) + sT (j)))), (11, .int ((rl 12 20 xa + xe) + sT (j))), (10, .int (rl 12 20 xa)), (9, .int (nI (j))), (0, .ref d), (1, .int (xa)), (5, .int (xe)), (6, .int (xf)), (7, .int (xg)), (8, .int (xh))]) hx hb dX2_processBlock_322 rfl hl (by decide) rfl (fun ls hl => ?_)
    refine lv_iload hx hb dX2_processBlock_323 (lv_at hl 4 rfl) ?_
    refine lv_istore_n (lv' := [(1, .int (rA w j xa xb1 xc xd xe)), (2, .int (xa)), (3, .int (rl 9 23 xb1)), (4, .int (xc)), (17, .int (rE w j xa xe xf xg xh)), (16, .int (rA w j xa xb1 xc xd xe)), (15, .int ((w (j)) ^^^ (w (j + 4)))), (14, .int (w (j))), (13, .int ((rl 7 25 ((rl 12 20 xa + xe) + sT (j))) ^^^ (rl 12 20 xa))), (12, .int (rl 7 25 ((rl 12 20 xa + xe) + sT (j)))), (11, .int ((rl 12 20 xa + xe) + sT (j))), (10, .int (rl 12 20 xa)), (9, .int (nI (j))), (0, .ref d), (5, .int (xe)), (6, .int (xf)), (7, .int (xg)), (8, .int (xh))]) hx hb dX2_processBlock_325 rfl hl (by decide) rfl (fun ls hl => ?_)
    refine lv_iload hx hb dX2_processBlock_326 (lv_at hl 16 rfl) ?_
    refine lv_istore (lv' := [(8, .int (xg)), (1, .int (rA w j xa xb1 xc xd xe)), (2, .int (xa)), (3, .int (rl 9 23 xb1)), (4, .int (xc)), (17, .int (rE w j xa xe xf xg xh)), (16, .int (rA w j xa xb1 xc xd xe)), (15, .int ((w (j)) ^^^ (w (j + 4)))), (14, .int (w (j))), (13, .int ((rl 7 25 ((rl 12 20 xa + xe) + sT (j))) ^^^ (rl 12 20 xa))), (12, .int (rl 7 25 ((rl 12 20 xa + xe) + sT (j)))), (11, .int ((rl 12 20 xa + xe) + sT (j))), (10, .int (rl 12 20 xa)), (9, .int (nI (j))), (0, .ref d), (5, .int (xe)), (6, .int (xf)), (7, .int (xg))]) hx hb dX2_processBlock_328 hl (by decide) rfl (fun ls hl => ?_)
    refine lv_iload hx hb dX2_processBlock_330 (lv_at hl 16 rfl) ?_
    refine lv_bipush (v := 19) hx hb dX2_processBlock_332 (by decide) ?_
    refine lv_ishl hx hb dX2_processBlock_334 ?_
    refine lv_iload hx hb dX2_processBlock_335 (lv_at hl 16 rfl) ?_
    refine lv_bipush (v := 13) hx hb dX2_processBlock_337 (by decide) ?_
    refine lv_iushr (v := ((xf).toUInt32 >>> (Int32.toUInt32 13 &&& Int32.toUInt32 31)).toInt32) hx hb dX2_processBlock_339 rfl ?_
    refine lv_ior hx hb dX2_processBlock_340 ?_
    refine tp_i (y := rl 19 13 xf) (rfl) ?_
    refine lv_istore (lv' := [(7, .int (rl 19 13 xf)), (8, .int (xg)), (1, .int (rA w j xa xb1 xc xd xe)), (2, .int (xa)), (3, .int (rl 9 23 xb1)), (4, .int (xc)), (17, .int (rE w j xa xe xf xg xh)), (16, .int (rA w j xa xb1 xc xd xe)), (15, .int ((w (j)) ^^^ (w (j + 4)))), (14, .int (w (j))), (13, .int ((rl 7 25 ((rl 12 20 xa + xe) + sT (j))) ^^^ (rl 12 20 xa))), (12, .int (rl 7 25 ((rl 12 20 xa + xe) + sT (j)))), (11, .int ((rl 12 20 xa + xe) + sT (j))), (10, .int (rl 12 20 xa)), (9, .int (nI (j))), (0, .ref d), (5, .int (xe)), (6, .int (xf))]) hx hb dX2_processBlock_341 hl (by decide) rfl (fun ls hl => ?_)
    refine lv_iload hx hb dX2_processBlock_343 (lv_at hl 16 rfl) ?_
    refine lv_istore (lv' := [(6, .int (xe)), (7, .int (rl 19 13 xf)), (8, .int (xg)), (1, .int (rA w j xa xb1 xc xd xe)), (2, .int (xa)), (3, .int (rl 9 23 xb1)), (4, .int (xc)), (17, .int (rE w j xa xe xf xg xh)), (16, .int (rA w j xa xb1 xc xd xe)), (15, .int ((w (j)) ^^^ (w (j + 4)))), (14, .int (w (j))), (13, .int ((rl 7 25 ((rl 12 20 xa + xe) + sT (j))) ^^^ (rl 12 20 xa))), (12, .int (rl 7 25 ((rl 12 20 xa + xe) + sT (j)))), (11, .int ((rl 12 20 xa + xe) + sT (j))), (10, .int (rl 12 20 xa)), (9, .int (nI (j))), (0, .ref d), (5, .int (xe))]) hx hb dX2_processBlock_345 hl (by decide) rfl (fun ls hl => ?_)
    refine lv_aload_n hx hb dX2_processBlock_347 rfl (lv_at hl 16 rfl) ?_
    refine lv_iload hx hb dX2_processBlock_348 (lv_at hl 7 rfl) ?_
    refine kVp (Cn := "SM3Digest") (rest := []) (na := 1) hx hb hml C h (c_X2_P0 l G d _ (rE w j xa xe xf xg xh)) (lw_V q172 q174 qs6 q17 q175) (by decide +kernel) rfl ⟨Nat.le_of_ble_eq_true rfl, Nat.le_of_ble_eq_true rfl⟩ 0 rfl rfl rfl [] (by decide) rfl hl.1 rfl (Nat.le_of_ble_eq_true rfl) ⟨Nat.le_of_ble_eq_true rfl, Nat.le_of_ble_eq_true rfl⟩ dX2_processBlock_350 (fun r_353 hp => ?_)
    obtain rfl : r_353 = sP0 (rE w j xa xe xf xg xh) := hp
    refine lv_istore (lv' := [(5, .int (sP0 (rE w j xa xe xf xg xh))), (6, .int (xe)), (7, .int (rl 19 13 xf)), (8, .int (xg)), (1, .int (rA w j xa xb1 xc xd xe)), (2, .int (xa)), (3, .int (rl 9 23 xb1)), (4, .int (xc)), (17, .int (rE w j xa xe xf xg xh)), (16, .int (rA w j xa xb1 xc xd xe)), (15, .int ((w (j)) ^^^ (w (j + 4)))), (14, .int (w (j))), (13, .int ((rl 7 25 ((rl 12 20 xa + xe) + sT (j))) ^^^ (rl 12 20 xa))), (12, .int (rl 7 25 ((rl 12 20 xa + xe) + sT (j)))), (11, .int ((rl 12 20 xa + xe) + sT (j))), (10, .int (rl 12 20 xa)), (9, .int (nI (j))), (0, .ref d)]) hx hb dX2_processBlock_353 hl (by decide) rfl (fun ls hl => ?_)
    refine lv_iinc (v := nI (j + 1)) (lv' := [(9, .int (nI (j + 1))), (5, .int (sP0 (rE w j xa xe xf xg xh))), (6, .int (xe)), (7, .int (rl 19 13 xf)), (8, .int (xg)), (1, .int (rA w j xa xb1 xc xd xe)), (2, .int (xa)), (3, .int (rl 9 23 xb1)), (4, .int (xc)), (17, .int (rE w j xa xe xf xg xh)), (16, .int (rA w j xa xb1 xc xd xe)), (15, .int ((w (j)) ^^^ (w (j + 4)))), (14, .int (w (j))), (13, .int ((rl 7 25 ((rl 12 20 xa + xe) + sT (j))) ^^^ (rl 12 20 xa))), (12, .int (rl 7 25 ((rl 12 20 xa + xe) + sT (j)))), (11, .int ((rl 12 20 xa + xe) + sT (j))), (10, .int (rl 12 20 xa)), (0, .ref d)]) hx hb dX2_processBlock_355 hl (k := 16) rfl (ii1 (j)) (by decide) rfl (fun ls hl => ?_)
    refine lv_goto (tgt := 194) hx hb dX2_processBlock_358 (by decide) ?_
    exact ih (j + 1) _ _ _ _ _ _ _ _ H locs ls (by omega) (by omega) (by show _ = rnd w j (rnds w j (v8 v)); rw [← hw]; rfl) h (lv_sub hl [0, 17, 5, 6, 7, 8, 1, 2, 3, 4] rfl)
set_option maxHeartbeats 4000000 in
theorem lpD_X2_processBlock {p : Program} {l : Launch} {e : Env} {s : State} {m : MethodId} {args : Array Value} {below : List Frame} {meth : Method} {c : Code} {Q : State → Prop} {G : GG} {A : Nat → Prop} (d pu xb va ia wa : Nat) (xbo xo : Int32) (bc : Int64) (v f : Nat → Int32) (hx : p.tables.exec = Jvm.exec) (hb : c.code = cX2_processBlock) (hml : c.maxLocals = 18) (C : CX G A s args m "SM3Digest") (w : Nat → Int32)
    (kx : ∀ (xa xb1 xc xd xe xf xg xh : Int32) (H : Heap) (locs : List Loc) (ls : Array Slot), (xa, xb1, xc, xd, xe, xf, xg, xh) = rnds w 64 (v8 v) → HS G A s H locs [oD d [.ref pu, .ref xb, .int (xbo), .long (bc), .ref va, .ref ia, .int (xo), .ref wa], aI G va 8 (v), aI G ia 16 (f), aI G wa 68 (w)] → lv_has ls 18 [(0, .ref d), (1, .int (xa)), (2, .int (xb1)), (3, .int (xc)), (4, .int (xd)), (5, .int (xe)), (6, .int (xf)), (7, .int (xg)), (8, .int (xh))] → W p l e (rmc 1 23 0 0) s m args below meth c H locs 0 0 Q (F0 m 532 ls [])) :
    ∀ (k j : Nat) (xa xb1 xc xd xe xf xg xh : Int32) (H : Heap) (locs : List Loc) (ls : Array Slot), 16 ≤ j → j + k = 64 → (xa, xb1, xc, xd, xe, xf, xg, xh) = rnds w j (v8 v) → HS G A s H locs [oD d [.ref pu, .ref xb, .int (xbo), .long (bc), .ref va, .ref ia, .int (xo), .ref wa], aI G va 8 (v), aI G ia 16 (f), aI G wa 68 (w)] → lv_has ls 18 [(9, .int (nI (j))), (0, .ref d), (1, .int (xa)), (2, .int (xb1)), (3, .int (xc)), (4, .int (xd)), (5, .int (xe)), (6, .int (xf)), (7, .int (xg)), (8, .int (xh))] → W p l e (rmc 1 23 0 0) s m args below meth c H locs 0 0 Q (F0 m 365 ls []) := by
  intro k
  induction k with
  | zero =>
    intro j xa xb1 xc xd xe xf xg xh H locs ls h16 hj hw h hl
    obtain rfl : j = 64 := by omega
    refine lv_iload hx hb dX2_processBlock_365 (lv_at hl 0 rfl) ?_
    refine lv_bipush (v := nI (64)) hx hb dX2_processBlock_367 (by decide) ?_
    refine lv_icmp_ge (tgt := 532) hx hb dX2_processBlock_369 (by decide) (fun _ => ?_) (fun c_ => absurd (Int32.le_refl _) c_)
    exact kx xa xb1 xc xd xe xf xg xh H locs ls hw h (lv_sub hl [1, 2, 3, 4, 5, 6, 7, 8, 9] rfl)
  | succ k ih =>
    intro j xa xb1 xc xd xe xf xg xh H locs ls h16 hj hw h hl
    refine lv_iload hx hb dX2_processBlock_365 (lv_at hl 0 rfl) ?_
    refine lv_bipush (v := nI (64)) hx hb dX2_processBlock_367 (by decide) ?_
    refine lv_icmp_ge (tgt := 532) hx hb dX2_processBlock_369 (by decide) (fun c_ => absurd c_ (nI_ge (a := j) (b := 64) (by omega) (by decide))) (fun _ => ?_)
    refine lv_iload_n hx hb dX2_processBlock_372 rfl (lv_at hl 2 rfl) ?_
    refine lv_bipush (v := 12) hx hb dX2_processBlock_373 (by decide) ?_
    refine lv_ishl hx hb dX2_processBlock_375 ?_
    refine lv_iload_n hx hb dX2_processBlock_376 rfl (lv_at hl 2 rfl) ?_
    refine lv_bipush (v := 20) hx hb dX2_processBlock_377 (by decide) ?_
    refine lv_iushr (v := ((xa).toUInt32 >>> (Int32.toUInt32 20 &&& Int32.toUInt32 31)).toInt32) hx hb dX2_processBlock_379 rfl ?_
    refine lv_ior hx hb dX2_processBlock_380 ?_
    refine tp_i (y := rl 12 20 xa) (rfl) ?_
    refine lv_istore (lv' := [(10, .int (rl 12 20 xa)), (9, .int (nI (j))), (0, .ref d), (1, .int (xa)), (2, .int (xb1)), (3, .int (xc)), (4, .int (xd)), (5, .int (xe)), (6, .int (xf)), (7, .int (xg)), (8, .int (xh))]) hx hb dX2_processBlock_381 hl (by decide) rfl (fun ls hl => ?_)
    refine lv_iload hx hb dX2_processBlock_383 (lv_at hl 0 rfl) ?_
    refine lv_iload hx hb dX2_processBlock_385 (lv_at hl 7 rfl) ?_
    refine lv_iadd hx hb dX2_processBlock_387 ?_
    refine g_T hx hb C h q162 rfl dX2_processBlock_388 ?_
    refine lv_iload hx hb dX2_processBlock_391 (lv_at hl 1 rfl) ?_
    refine g_tld (j := j) hx hb C h (by omega) dX2_processBlock_393 ?_
    refine lv_iadd hx hb dX2_processBlock_394 ?_
    refine tp_i (y := (rl 12 20 xa + xe) + sT (j)) (rfl) ?_
    refine lv_istore (lv' := [(11, .int ((rl 12 20 xa + xe) + sT (j))), (10, .int (rl 12 20 xa)), (9, .int (nI (j))), (0, .ref d), (1, .int (xa)), (2, .int (xb1)), (3, .int (xc)), (4, .int (xd)), (5, .int (xe)), (6, .int (xf)), (7, .int (xg)), (8, .int (xh))]) hx hb dX2_processBlock_395 hl (by decide) rfl (fun ls hl => ?_)
    refine lv_iload hx hb dX2_processBlock_397 (lv_at hl 0 rfl) ?_
    refine lv_bipush (v := 7) hx hb dX2_processBlock_399 (by decide) ?_
    refine lv_ishl hx hb dX2_processBlock_401 ?_
    refine lv_iload hx hb dX2_processBlock_402 (lv_at hl 0 rfl) ?_
    refine lv_bipush (v := 25) hx hb dX2_processBlock_404 (by decide) ?_
    refine lv_iushr (v := ((((rl 12 20 xa + xe) + sT (j))).toUInt32 >>> (Int32.toUInt32 25 &&& Int32.toUInt32 31)).toInt32) hx hb dX2_processBlock_406 rfl ?_
    refine lv_ior hx hb dX2_processBlock_407 ?_
    refine tp_i (y := rl 7 25 ((rl 12 20 xa + xe) + sT (j))) (rfl) ?_
    refine lv_istore (lv' := [(12, .int (rl 7 25 ((rl 12 20 xa + xe) + sT (j)))), (11, .int ((rl 12 20 xa + xe) + sT (j))), (10, .int (rl 12 20 xa)), (9, .int (nI (j))), (0, .ref d), (1, .int (xa)), (2, .int (xb1)), (3, .int (xc)), (4, .int (xd)), (5, .int (xe)), (6, .int (xf)), (7, .int (xg)), (8, .int (xh))]) hx hb dX2_processBlock_408 hl (by decide) rfl (fun ls hl => ?_)
    refine lv_iload hx hb dX2_processBlock_410 (lv_at hl 0 rfl) ?_
    refine lv_iload hx hb dX2_processBlock_412 (lv_at hl 2 rfl) ?_
    refine lv_ixor hx hb dX2_processBlock_414 ?_
    refine lv_istore (lv' := [(13, .int ((rl 7 25 ((rl 12 20 xa + xe) + sT (j))) ^^^ (rl 12 20 xa))), (12, .int (rl 7 25 ((rl 12 20 xa + xe) + sT (j)))), (11, .int ((rl 12 20 xa + xe) + sT (j))), (10, .int (rl 12 20 xa)), (9, .int (nI (j))), (0, .ref d), (1, .int (xa)), (2, .int (xb1)), (3, .int (xc)), (4, .int (xd)), (5, .int (xe)), (6, .int (xf)), (7, .int (xg)), (8, .int (xh))]) hx hb dX2_processBlock_415 hl (by decide) rfl (fun ls hl => ?_)
    refine lv_aload_n hx hb dX2_processBlock_417 rfl (lv_at hl 5 rfl) ?_
    refine g_get hx hb C h (ci := 1) in_X2 rfl 0 rfl 7 (by decide) q64 rfl rfl dX2_processBlock_418 ?_
    refine lv_iload hx hb dX2_processBlock_421 (lv_at hl 4 rfl) ?_
    refine g_ild (j := j) hx hb C h 3 rfl (by omega) (by decide) dX2_processBlock_423 ?_
    refine lv_istore (lv' := [(14, .int (w (j))), (13, .int ((rl 7 25 ((rl 12 20 xa + xe) + sT (j))) ^^^ (rl 12 20 xa))), (12, .int (rl 7 25 ((rl 12 20 xa + xe) + sT (j)))), (11, .int ((rl 12 20 xa + xe) + sT (j))), (10, .int (rl 12 20 xa)), (9, .int (nI (j))), (0, .ref d), (1, .int (xa)), (2, .int (xb1)), (3, .int (xc)), (4, .int (xd)), (5, .int (xe)), (6, .int (xf)), (7, .int (xg)), (8, .int (xh))]) hx hb dX2_processBlock_424 hl (by decide) rfl (fun ls hl => ?_)
    refine lv_iload hx hb dX2_processBlock_426 (lv_at hl 0 rfl) ?_
    refine lv_aload_n hx hb dX2_processBlock_428 rfl (lv_at hl 6 rfl) ?_
    refine g_get hx hb C h (ci := 1) in_X2 rfl 0 rfl 7 (by decide) q64 rfl rfl dX2_processBlock_429 ?_
    refine lv_iload hx hb dX2_processBlock_432 (lv_at hl 5 rfl) ?_
    refine lv_iconst (v := nI (4)) hx hb dX2_processBlock_434 (by decide) ?_
    refine lv_iadd hx hb dX2_processBlock_435 ?_
    refine tp_i (y := nI (j + 4)) (nI_add (j) (4)) ?_
    refine g_ild (j := j + 4) hx hb C h 3 rfl (by omega) (by decide) dX2_processBlock_436 ?_
    refine lv_ixor hx hb dX2_processBlock_437 ?_
    refine lv_istore (lv' := [(15, .int ((w (j)) ^^^ (w (j + 4)))), (14, .int (w (j))), (13, .int ((rl 7 25 ((rl 12 20 xa + xe) + sT (j))) ^^^ (rl 12 20 xa))), (12, .int (rl 7 25 ((rl 12 20 xa + xe) + sT (j)))), (11, .int ((rl 12 20 xa + xe) + sT (j))), (10, .int (rl 12 20 xa)), (9, .int (nI (j))), (0, .ref d), (1, .int (xa)), (2, .int (xb1)), (3, .int (xc)), (4, .int (xd)), (5, .int (xe)), (6, .int (xf)), (7, .int (xg)), (8, .int (xh))]) hx hb dX2_processBlock_438 hl (by decide) rfl (fun ls hl => ?_)
    refine lv_aload_n hx hb dX2_processBlock_440 rfl (lv_at hl 7 rfl) ?_
    refine lv_iload_n hx hb dX2_processBlock_441 rfl (lv_at hl 8 rfl) ?_
    refine lv_iload_n hx hb dX2_processBlock_442 rfl (lv_at hl 9 rfl) ?_
    refine lv_iload_n hx hb dX2_processBlock_443 rfl (lv_at hl 10 rfl) ?_
    refine kVp (Cn := "SM3Digest") (rest := []) (na := 3) hx hb hml C h (c_X2_FF1 l G d _ xa xb1 xc) (lw_V q176 q178 qs7 q17 q179) (by decide +kernel) rfl ⟨Nat.le_of_ble_eq_true rfl, Nat.le_of_ble_eq_true rfl⟩ 0 rfl rfl rfl [] (by decide) rfl hl.1 rfl (Nat.le_of_ble_eq_true rfl) ⟨Nat.le_of_ble_eq_true rfl, Nat.le_of_ble_eq_true rfl⟩ dX2_processBlock_444 (fun r_447 hp => ?_)
    obtain rfl : r_447 = sFF j xa xb1 xc := hp.trans (if_neg (by omega)).symm
    refine lv_iload hx hb dX2_processBlock_447 (lv_at hl 11 rfl) ?_
    refine lv_iadd hx hb dX2_processBlock_449 ?_
    refine lv_iload hx hb dX2_processBlock_450 (lv_at hl 2 rfl) ?_
    refine lv_iadd hx hb dX2_processBlock_452 ?_
    refine lv_iload hx hb dX2_processBlock_453 (lv_at hl 0 rfl) ?_
    refine lv_iadd hx hb dX2_processBlock_455 ?_
    refine tp_i (y := rA w j xa xb1 xc xd xe) (rfl) ?_
    refine lv_istore (lv' := [(16, .int (rA w j xa xb1 xc xd xe)), (15, .int ((w (j)) ^^^ (w (j + 4)))), (14, .int (w (j))), (13, .int ((rl 7 25 ((rl 12 20 xa + xe) + sT (j))) ^^^ (rl 12 20 xa))), (12, .int (rl 7 25 ((rl 12 20 xa + xe) + sT (j)))), (11, .int ((rl 12 20 xa + xe) + sT (j))), (10, .int (rl 12 20 xa)), (9, .int (nI (j))), (0, .ref d), (1, .int (xa)), (2, .int (xb1)), (3, .int (xc)), (4, .int (xd)), (5, .int (xe)), (6, .int (xf)), (7, .int (xg)), (8, .int (xh))]) hx hb dX2_processBlock_456 hl (by decide) rfl (fun ls hl => ?_)
    refine lv_aload_n hx hb dX2_processBlock_458 rfl (lv_at hl 8 rfl) ?_
    refine lv_iload hx hb dX2_processBlock_459 (lv_at hl 13 rfl) ?_
    refine lv_iload hx hb dX2_processBlock_461 (lv_at hl 14 rfl) ?_
    refine lv_iload hx hb dX2_processBlock_463 (lv_at hl 15 rfl) ?_
    refine kVp (Cn := "SM3Digest") (rest := []) (na := 3) hx hb hml C h (c_X2_GG1 l G d _ xe xf xg) (lw_V q180 q182 qs8 q17 q183) (by decide +kernel) rfl ⟨Nat.le_of_ble_eq_true rfl, Nat.le_of_ble_eq_true rfl⟩ 0 rfl rfl rfl [] (by decide) rfl hl.1 rfl (Nat.le_of_ble_eq_true rfl) ⟨Nat.le_of_ble_eq_true rfl, Nat.le_of_ble_eq_true rfl⟩ dX2_processBlock_465 (fun r_468 hp => ?_)
    obtain rfl : r_468 = sGG j xe xf xg := hp.trans (if_neg (by omega)).symm
    refine lv_iload hx hb dX2_processBlock_468 (lv_at hl 16 rfl) ?_
    refine lv_iadd hx hb dX2_processBlock_470 ?_
    refine lv_iload hx hb dX2_processBlock_471 (lv_at hl 4 rfl) ?_
    refine lv_iadd hx hb dX2_processBlock_473 ?_
    refine lv_iload hx hb dX2_processBlock_474 (lv_at hl 2 rfl) ?_
    refine lv_iadd hx hb dX2_processBlock_476 ?_
    refine tp_i (y := rE w j xa xe xf xg xh) (rfl) ?_
    refine lv_istore (lv' := [(17, .int (rE w j xa xe xf xg xh)), (16, .int (rA w j xa xb1 xc xd xe)), (15, .int ((w (j)) ^^^ (w (j + 4)))), (14, .int (w (j))), (13, .int ((rl 7 25 ((rl 12 20 xa + xe) + sT (j))) ^^^ (rl 12 20 xa))), (12, .int (rl 7 25 ((rl 12 20 xa + xe) + sT (j)))), (11, .int ((rl 12 20 xa + xe) + sT (j))), (10, .int (rl 12 20 xa)), (9, .int (nI (j))), (0, .ref d), (1, .int (xa)), (2, .int (xb1)), (3, .int (xc)), (4, .int (xd)), (5, .int (xe)), (6, .int (xf)), (7, .int (xg)), (8, .int (xh))]) hx hb dX2_processBlock_477 hl (by decide) rfl (fun ls hl => ?_)
    refine lv_iload_n hx hb dX2_processBlock_479 rfl (lv_at hl 12 rfl) ?_
    refine lv_istore (lv' := [(4, .int (xc)), (17, .int (rE w j xa xe xf xg xh)), (16, .int (rA w j xa xb1 xc xd xe)), (15, .int ((w (j)) ^^^ (w (j + 4)))), (14, .int (w (j))), (13, .int ((rl 7 25 ((rl 12 20 xa + xe) + sT (j))) ^^^ (rl 12 20 xa))), (12, .int (rl 7 25 ((rl 12 20 xa + xe) + sT (j)))), (11, .int ((rl 12 20 xa + xe) + sT (j))), (10, .int (rl 12 20 xa)), (9, .int (nI (j))), (0, .ref d), (1, .int (xa)), (2, .int (xb1)), (3, .int (xc)), (5, .int (xe)), (6, .int (xf)), (7, .int (xg)), (8, .int (xh))]) hx hb dX2_processBlock_480 hl (by decide) rfl (fun ls hl => ?_)
    refine lv_iload_n hx hb dX2_processBlock_482 rfl (lv_at hl 12 rfl) ?_
    refine lv_bipush (v := 9) hx hb dX2_processBlock_483 (by decide) ?_
    refine lv_ishl hx hb dX2_processBlock_485 ?_
    refine lv_iload_n hx hb dX2_processBlock_486 rfl (lv_at hl 12 rfl) ?_
    refine lv_bipush (v := 23) hx hb dX2_processBlock_487 (by decide) ?_
    refine lv_iushr (v := ((xb1).toUInt32 >>> (Int32.toUInt32 23 &&& Int32.toUInt32 31)).toInt32) hx hb dX2_processBlock_489 rfl ?_
    refine lv_ior hx hb dX2_processBlock_490 ?_
    refine tp_i (y := rl 9 23 xb1) (rfl) ?_
    refine lv_istore_n (lv' := [(3, .int (rl 9 23 xb1)), (4, .int (xc)), (17, .int (rE w j xa xe xf xg xh)), (16, .int (rA w j xa xb1 xc xd xe)), (15, .int ((w (j)) ^^^ (w (j + 4)))), (14, .int (w (j))), (13, .int ((rl 7 25 ((rl 12 20 xa + xe) + sT (j))) ^^^ (rl 12 20 xa))), (12, .int (rl 7 25 ((rl 12 20 xa + xe) + sT (j)))), (11, .int ((rl 12 20 xa + xe) + sT (j))), (10, .int (rl 12 20 xa)), (9, .int (nI (j))), (0, .ref d), (1, .int (xa)), (2, .int (xb1)), (5, .int (xe)), (6, .int (xf)), (7, .int (xg)), (8, .int (xh))]) hx hb dX2_processBlock_491 rfl hl (by decide) rfl (fun ls hl => ?_)
    refine lv_iload_n hx hb dX2_processBlock_492 rfl (lv_at hl 12 rfl) ?_
    refine lv_istore_n (lv' := [(2, .int (xa)), (3, .int (rl 9 23 xb1)), (4, .int (xc)), (17, .int (rE w j xa xe xf xg xh)), (16, .int (rA w j xa xb1 xc xd xe)), (15, .int ((w (j)) ^^^ (w (j + 4)))), (14, .int (w (j))), (13, .int ((rl 7 25 ((rl 12 20 xa + xe) + sT (j))) ^^^ (rl 12 20 xa))), (12, .int (rl 7 25 ((rl 12 20 xa + xe) + sT (j)))), (11, .int ((rl 12 20 xa + xe) + sT (j))), (10, .int (rl 12 20 xa)), (9, .int (nI (j))), (0, .ref d), (1, .int (xa)), (5, .int (xe)), (6, .int (xf)), (7, .int (xg)), (8, .int (xh))]) hx hb dX2_processBlock_493 rfl hl (by decide) rfl (fun ls hl => ?_)
    refine lv_iload hx hb dX2_processBlock_494 (lv_at hl 4 rfl) ?_
    refine lv_istore_n (lv' := [(1, .int (rA w j xa xb1 xc xd xe)), (2, .int (xa)), (3, .int (rl 9 23 xb1)), (4, .int (xc)), (17, .int (rE w j xa xe xf xg xh)), (16, .int (rA w j xa xb1 xc xd xe)), (15, .int ((w (j)) ^^^ (w (j + 4)))), (14, .int (w (j))), (13, .int ((rl 7 25 ((rl 12 20 xa + xe) + sT (j))) ^^^ (rl 12 20 xa))), (12, .int (rl 7 25 ((rl 12 20 xa + xe) + sT (j)))), (11, .int ((rl 12 20 xa + xe) + sT (j))), (10, .int (rl 12 20 xa)), (9, .int (nI (j))), (0, .ref d), (5, .int (xe)), (6, .int (xf)), (7, .int (xg)), (8, .int (xh))]) hx hb dX2_processBlock_496 rfl hl (by decide) rfl (fun ls hl => ?_)
    refine lv_iload hx hb dX2_processBlock_497 (lv_at hl 16 rfl) ?_
    refine lv_istore (lv' := [(8, .int (xg)), (1, .int (rA w j xa xb1 xc xd xe)), (2, .int (xa)), (3, .int (rl 9 23 xb1)), (4, .int (xc)), (17, .int (rE w j xa xe xf xg xh)), (16, .int (rA w j xa xb1 xc xd xe)), (15, .int ((w (j)) ^^^ (w (j + 4)))), (14, .int (w (j))), (13, .int ((rl 7 25 ((rl 12 20 xa + xe) + sT (j))) ^^^ (rl 12 20 xa))), (12, .int (rl 7 25 ((rl 12 20 xa + xe) + sT (j)))), (11, .int ((rl 12 20 xa + xe) + sT (j))), (10, .int (rl 12 20 xa)), (9, .int (nI (j))), (0, .ref d), (5, .int (xe)), (6, .int (xf)), (7, .int (xg))]) hx hb dX2_processBlock_499 hl (by decide) rfl (fun ls hl => ?_)
    refine lv_iload hx hb dX2_processBlock_501 (lv_at hl 16 rfl) ?_
    refine lv_bipush (v := 19) hx hb dX2_processBlock_503 (by decide) ?_
    refine lv_ishl hx hb dX2_processBlock_505 ?_
    refine lv_iload hx hb dX2_processBlock_506 (lv_at hl 16 rfl) ?_
    refine lv_bipush (v := 13) hx hb dX2_processBlock_508 (by decide) ?_
    refine lv_iushr (v := ((xf).toUInt32 >>> (Int32.toUInt32 13 &&& Int32.toUInt32 31)).toInt32) hx hb dX2_processBlock_510 rfl ?_
    refine lv_ior hx hb dX2_processBlock_511 ?_
    refine tp_i (y := rl 19 13 xf) (rfl) ?_
    refine lv_istore (lv' := [(7, .int (rl 19 13 xf)), (8, .int (xg)), (1, .int (rA w j xa xb1 xc xd xe)), (2, .int (xa)), (3, .int (rl 9 23 xb1)), (4, .int (xc)), (17, .int (rE w j xa xe xf xg xh)), (16, .int (rA w j xa xb1 xc xd xe)), (15, .int ((w (j)) ^^^ (w (j + 4)))), (14, .int (w (j))), (13, .int ((rl 7 25 ((rl 12 20 xa + xe) + sT (j))) ^^^ (rl 12 20 xa))), (12, .int (rl 7 25 ((rl 12 20 xa + xe) + sT (j)))), (11, .int ((rl 12 20 xa + xe) + sT (j))), (10, .int (rl 12 20 xa)), (9, .int (nI (j))), (0, .ref d), (5, .int (xe)), (6, .int (xf))]) hx hb dX2_processBlock_512 hl (by decide) rfl (fun ls hl => ?_)
    refine lv_iload hx hb dX2_processBlock_514 (lv_at hl 16 rfl) ?_
    refine lv_istore (lv' := [(6, .int (xe)), (7, .int (rl 19 13 xf)), (8, .int (xg)), (1, .int (rA w j xa xb1 xc xd xe)), (2, .int (xa)), (3, .int (rl 9 23 xb1)), (4, .int (xc)), (17, .int (rE w j xa xe xf xg xh)), (16, .int (rA w j xa xb1 xc xd xe)), (15, .int ((w (j)) ^^^ (w (j + 4)))), (14, .int (w (j))), (13, .int ((rl 7 25 ((rl 12 20 xa + xe) + sT (j))) ^^^ (rl 12 20 xa))), (12, .int (rl 7 25 ((rl 12 20 xa + xe) + sT (j)))), (11, .int ((rl 12 20 xa + xe) + sT (j))), (10, .int (rl 12 20 xa)), (9, .int (nI (j))), (0, .ref d), (5, .int (xe))]) hx hb dX2_processBlock_516 hl (by decide) rfl (fun ls hl => ?_)
    refine lv_aload_n hx hb dX2_processBlock_518 rfl (lv_at hl 16 rfl) ?_
    refine lv_iload hx hb dX2_processBlock_519 (lv_at hl 7 rfl) ?_
    refine kVp (Cn := "SM3Digest") (rest := []) (na := 1) hx hb hml C h (c_X2_P0 l G d _ (rE w j xa xe xf xg xh)) (lw_V q172 q174 qs6 q17 q175) (by decide +kernel) rfl ⟨Nat.le_of_ble_eq_true rfl, Nat.le_of_ble_eq_true rfl⟩ 0 rfl rfl rfl [] (by decide) rfl hl.1 rfl (Nat.le_of_ble_eq_true rfl) ⟨Nat.le_of_ble_eq_true rfl, Nat.le_of_ble_eq_true rfl⟩ dX2_processBlock_521 (fun r_524 hp => ?_)
    obtain rfl : r_524 = sP0 (rE w j xa xe xf xg xh) := hp
    refine lv_istore (lv' := [(5, .int (sP0 (rE w j xa xe xf xg xh))), (6, .int (xe)), (7, .int (rl 19 13 xf)), (8, .int (xg)), (1, .int (rA w j xa xb1 xc xd xe)), (2, .int (xa)), (3, .int (rl 9 23 xb1)), (4, .int (xc)), (17, .int (rE w j xa xe xf xg xh)), (16, .int (rA w j xa xb1 xc xd xe)), (15, .int ((w (j)) ^^^ (w (j + 4)))), (14, .int (w (j))), (13, .int ((rl 7 25 ((rl 12 20 xa + xe) + sT (j))) ^^^ (rl 12 20 xa))), (12, .int (rl 7 25 ((rl 12 20 xa + xe) + sT (j)))), (11, .int ((rl 12 20 xa + xe) + sT (j))), (10, .int (rl 12 20 xa)), (9, .int (nI (j))), (0, .ref d)]) hx hb dX2_processBlock_524 hl (by decide) rfl (fun ls hl => ?_)
    refine lv_iinc (v := nI (j + 1)) (lv' := [(9, .int (nI (j + 1))), (5, .int (sP0 (rE w j xa xe xf xg xh))), (6, .int (xe)), (7, .int (rl 19 13 xf)), (8, .int (xg)), (1, .int (rA w j xa xb1 xc xd xe)), (2, .int (xa)), (3, .int (rl 9 23 xb1)), (4, .int (xc)), (17, .int (rE w j xa xe xf xg xh)), (16, .int (rA w j xa xb1 xc xd xe)), (15, .int ((w (j)) ^^^ (w (j + 4)))), (14, .int (w (j))), (13, .int ((rl 7 25 ((rl 12 20 xa + xe) + sT (j))) ^^^ (rl 12 20 xa))), (12, .int (rl 7 25 ((rl 12 20 xa + xe) + sT (j)))), (11, .int ((rl 12 20 xa + xe) + sT (j))), (10, .int (rl 12 20 xa)), (0, .ref d)]) hx hb dX2_processBlock_526 hl (k := 16) rfl (ii1 (j)) (by decide) rfl (fun ls hl => ?_)
    refine lv_goto (tgt := 365) hx hb dX2_processBlock_529 (by decide) ?_
    exact ih (j + 1) _ _ _ _ _ _ _ _ H locs ls (by omega) (by omega) (by show _ = rnd w j (rnds w j (v8 v)); rw [← hw]; rfl) h (lv_sub hl [0, 17, 5, 6, 7, 8, 1, 2, 3, 4] rfl)
set_option maxHeartbeats 4000000 in
/-- SM3Digest.processBlock: the sixteen words that stand go into the chain -/
theorem c_X2_processBlock (l : Launch) (G : GG) (d pu xb va ia wa sz : Nat) (xbo xo : Int32) (bc : Int64) (v f w0 : Nat → Int32) : CtV l G yX2_processBlock cX2_processBlock 18 1 23 0 0 [.ref d] [oD d [.ref pu, .ref xb, .int (xbo), .long (bc), .ref va, .ref ia, .int (xo), .ref wa], aI G va 8 (v), aI G ia 16 (f), aI G wa 68 (w0)] sz (fun u : (Nat → Int32) × (Nat → Int32) => v8 u.1 = cmp8 f (v8 v)) (fun u => [oD d [.ref pu, .ref xb, .int xbo, .long bc, .ref va, .ref ia, .int 0, .ref wa], aI G va 8 u.1, aI G ia 16 f, aI G wa 68 u.2]) := by
  refine entV "SM3Digest" rfl (by decide +kernel) (Nat.le_of_ble_eq_true rfl) ?_
  intro p e s m below meth c A ls hx hb hr hk hml hin hsz C h hl
  have hl : lv_has ls 18 [(0, .ref d)] := hl
  refine lv_iconst (v := nI (0)) hx hb dX2_processBlock_0 (by decide) ?_
  refine lv_istore_n (lv' := [(1, .int (nI (0))), (0, .ref d)]) hx hb dX2_processBlock_1 rfl hl (by decide) rfl (fun ls hl => ?_)
  refine lpA_X2_processBlock d pu xb va ia wa xbo xo bc v f hx hb hml C (fun w H locs ls hw h hl => ?_) 16 0 w0 _ _ ls rfl lt_0 h (lv_sub hl [1, 0] rfl)
  refine lv_bipush (v := nI (16)) hx hb dX2_processBlock_26 (by decide) ?_
  refine lv_istore_n (lv' := [(1, .int (nI (16))), (0, .ref d)]) hx hb dX2_processBlock_28 rfl hl (by decide) rfl (fun ls hl => ?_)
  refine lpB_X2_processBlock d pu xb va ia wa xbo xo bc v f hx hb hml C (fun w H locs ls hw h hl => ?_) 52 16 w _ _ ls (by decide) rfl (fun i hi => (hw i hi).trans (sWc_lo hi).symm) h (lv_sub hl [1, 0] rfl)
  refine lv_aload_n hx hb dX2_processBlock_128 rfl (lv_at hl 0 rfl) ?_
  refine g_get hx hb C h (ci := 1) in_X2 rfl 0 rfl 4 (by decide) q61 rfl rfl dX2_processBlock_129 ?_
  refine lv_iconst (v := nI (0)) hx hb dX2_processBlock_132 (by decide) ?_
  refine g_ild (j := 0) hx hb C h 1 rfl (by decide) (by decide) dX2_processBlock_133 ?_
  refine lv_istore_n (lv' := [(1, .int (v (0))), (0, .ref d)]) hx hb dX2_processBlock_134 rfl hl (by decide) rfl (fun ls hl => ?_)
  refine lv_aload_n hx hb dX2_processBlock_135 rfl (lv_at hl 1 rfl) ?_
  refine g_get hx hb C h (ci := 1) in_X2 rfl 0 rfl 4 (by decide) q61 rfl rfl dX2_processBlock_136 ?_
  refine lv_iconst (v := nI (1)) hx hb dX2_processBlock_139 (by decide) ?_
  refine g_ild (j := 1) hx hb C h 1 rfl (by decide) (by decide) dX2_processBlock_140 ?_
  refine lv_istore_n (lv' := [(2, .int (v (1))), (1, .int (v (0))), (0, .ref d)]) hx hb dX2_processBlock_141 rfl hl (by decide) rfl (fun ls hl => ?_)
  refine lv_aload_n hx hb dX2_processBlock_142 rfl (lv_at hl 2 rfl) ?_
  refine g_get hx hb C h (ci := 1) in_X2 rfl 0 rfl 4 (by decide) q61 rfl rfl dX2_processBlock_143 ?_
  refine lv_iconst (v := nI (2)) hx hb dX2_processBlock_146 (by decide) ?_
  refine g_ild (j := 2) hx hb C h 1 rfl (by decide) (by decide) dX2_processBlock_147 ?_
  refine lv_istore_n (lv' := [(3, .int (v (2))), (2, .int (v (1))), (1, .int (v (0))), (0, .ref d)]) hx hb dX2_processBlock_148 rfl hl (by decide) rfl (fun ls hl => ?_)
  refine lv_aload_n hx hb dX2_processBlock_149 rfl (lv_at hl 3 rfl) ?_
  refine g_get hx hb C h (ci := 1) in_X2 rfl 0 rfl 4 (by decide) q61 rfl rfl dX2_processBlock_150 ?_
  refine lv_iconst (v := nI (3)) hx hb dX2_processBlock_153 (by decide) ?_
  refine g_ild (j := 3) hx hb C h 1 rfl (by decide) (by decide) dX2_processBlock_154 ?_
  refine lv_istore (lv' := [(4, .int (v (3))), (3, .int (v (2))), (2, .int (v (1))), (1, .int (v (0))), (0, .ref d)]) hx hb dX2_processBlock_155 hl (by decide) rfl (fun ls hl => ?_)
  refine lv_aload_n hx hb dX2_processBlock_157 rfl (lv_at hl 4 rfl) ?_
  refine g_get hx hb C h (ci := 1) in_X2 rfl 0 rfl 4 (by decide) q61 rfl rfl dX2_processBlock_158 ?_
  refine lv_iconst (v := nI (4)) hx hb dX2_processBlock_161 (by decide) ?_
  refine g_ild (j := 4) hx hb C h 1 rfl (by decide) (by decide) dX2_processBlock_162 ?_
  refine lv_istore (lv' := [(5, .int (v (4))), (4, .int (v (3))), (3, .int (v (2))), (2, .int (v (1))), (1, .int (v (0))), (0, .ref d)]) hx hb dX2_processBlock_163 hl (by decide) rfl (fun ls hl => ?_)
  refine lv_aload_n hx hb dX2_processBlock_165 rfl (lv_at hl 5 rfl) ?_
  refine g_get hx hb C h (ci := 1) in_X2 rfl 0 rfl 4 (by decide) q61 rfl rfl dX2_processBlock_166 ?_
  refine lv_iconst (v := nI (5)) hx hb dX2_processBlock_169 (by decide) ?_
  refine g_ild (j := 5) hx hb C h 1 rfl (by decide) (by decide) dX2_processBlock_170 ?_
  refine lv_istore (lv' := [(6, .int (v (5))), (5, .int (v (4))), (4, .int (v (3))), (3, .int (v (2))), (2, .int (v (1))), (1, .int (v (0))), (0, .ref d)]) hx hb dX2_processBlock_171 hl (by decide) rfl (fun ls hl => ?_)
  refine lv_aload_n hx hb dX2_processBlock_173 rfl (lv_at hl 6 rfl) ?_
  refine g_get hx hb C h (ci := 1) in_X2 rfl 0 rfl 4 (by decide) q61 rfl rfl dX2_processBlock_174 ?_
  refine lv_bipush (v := nI (6)) hx hb dX2_processBlock_177 (by decide) ?_
  refine g_ild (j := 6) hx hb C h 1 rfl (by decide) (by decide) dX2_processBlock_179 ?_
  refine lv_istore (lv' := [(7, .int (v (6))), (6, .int (v (5))), (5, .int (v (4))), (4, .int (v (3))), (3, .int (v (2))), (2, .int (v (1))), (1, .int (v (0))), (0, .ref d)]) hx hb dX2_processBlock_180 hl (by decide) rfl (fun ls hl => ?_)
  refine lv_aload_n hx hb dX2_processBlock_182 rfl (lv_at hl 7 rfl) ?_
  refine g_get hx hb C h (ci := 1) in_X2 rfl 0 rfl 4 (by decide) q61 rfl rfl dX2_processBlock_183 ?_
  refine lv_bipush (v := nI (7)) hx hb dX2_processBlock_186 (by decide) ?_
  refine g_ild (j := 7) hx hb C h 1 rfl (by decide) (by decide) dX2_processBlock_188 ?_
  refine lv_istore (lv' := [(8, .int (v (7))), (7, .int (v (6))), (6, .int (v (5))), (5, .int (v (4))), (4, .int (v (3))), (3, .int (v (2))), (2, .int (v (1))), (1, .int (v (0))), (0, .ref d)]) hx hb dX2_processBlock_189 hl (by decide) rfl (fun ls hl => ?_)
  refine lv_iconst (v := nI (0)) hx hb dX2_processBlock_191 (by decide) ?_
  refine lv_istore (lv' := [(9, .int (nI (0))), (8, .int (v (7))), (7, .int (v (6))), (6, .int (v (5))), (5, .int (v (4))), (4, .int (v (3))), (3, .int (v (2))), (2, .int (v (1))), (1, .int (v (0))), (0, .ref d)]) hx hb dX2_processBlock_192 hl (by decide) rfl (fun ls hl => ?_)
  refine lpC_X2_processBlock d pu xb va ia wa xbo xo bc v f hx hb hml C w (fun xa xb1 xc xd xe xf xg xh H locs ls hq h hl => ?_) 16 0 _ _ _ _ _ _ _ _ _ _ ls (by decide) rfl (show (v 0, v 1, v 2, v 3, v 4, v 5, v 6, v 7) = rnds w 0 (v8 v) from rfl) h (lv_sub hl [0, 9, 8, 7, 6, 5, 4, 3, 2, 1] rfl)
  refine lv_bipush (v := nI (16)) hx hb dX2_processBlock_361 (by decide) ?_
  refine lv_istore (lv' := [(9, .int (nI (16))), (0, .ref d), (1, .int (xa)), (2, .int (xb1)), (3, .int (xc)), (4, .int (xd)), (5, .int (xe)), (6, .int (xf)), (7, .int (xg)), (8, .int (xh))]) hx hb dX2_processBlock_363 hl (by decide) rfl (fun ls hl => ?_)
  refine lpD_X2_processBlock d pu xb va ia wa xbo xo bc v f hx hb hml C w (fun xa xb1 xc xd xe xf xg xh H locs ls hq h hl => ?_) 48 16 _ _ _ _ _ _ _ _ _ _ ls (by decide) rfl hq h (lv_sub hl [0, 1, 2, 3, 4, 5, 6, 7, 8, 9] rfl)
  refine lv_aload_n hx hb dX2_processBlock_532 rfl (lv_at hl 0 rfl) ?_
  refine g_get hx hb C h (ci := 1) in_X2 rfl 0 rfl 4 (by decide) q61 rfl rfl dX2_processBlock_533 ?_
  refine lv_iconst (v := nI (0)) hx hb dX2_processBlock_536 (by decide) ?_
  refine lv_dup2_11 hx hb dX2_processBlock_537 rfl rfl ?_
  refine g_ild (j := 0) hx hb C h 1 rfl (by decide) (by decide) dX2_processBlock_538 ?_
  refine tp_i (y := v 0) (rfl) ?_
  refine lv_iload_n hx hb dX2_processBlock_539 rfl (lv_at hl 1 rfl) ?_
  refine lv_ixor hx hb dX2_processBlock_540 ?_
  refine g_ist (j := 0) hx hb C h 1 rfl (by decide) (by decide) dX2_processBlock_541 (fun H locs h => ?_)
  have h : HS G A s H locs [oD d [.ref pu, .ref xb, .int (xbo), .long (bc), .ref va, .ref ia, .int (xo), .ref wa], aI G va 8 (upd v (0) ((v 0) ^^^ xa)), aI G ia 16 (f), aI G wa 68 (w)] := h
  refine lv_aload_n hx hb dX2_processBlock_542 rfl (lv_at hl 0 rfl) ?_
  refine g_get hx hb C h (ci := 1) in_X2 rfl 0 rfl 4 (by decide) q61 rfl rfl dX2_processBlock_543 ?_
  refine lv_iconst (v := nI (1)) hx hb dX2_processBlock_546 (by decide) ?_
  refine lv_dup2_11 hx hb dX2_processBlock_547 rfl rfl ?_
  refine g_ild (j := 1) hx hb C h 1 rfl (by decide) (by decide) dX2_processBlock_548 ?_
  refine tp_i (y := v 1) (rfl) ?_
  refine lv_iload_n hx hb dX2_processBlock_549 rfl (lv_at hl 2 rfl) ?_
  refine lv_ixor hx hb dX2_processBlock_550 ?_
  refine g_ist (j := 1) hx hb C h 1 rfl (by decide) (by decide) dX2_processBlock_551 (fun H locs h => ?_)
  have h : HS G A s H locs [oD d [.ref pu, .ref xb, .int (xbo), .long (bc), .ref va, .ref ia, .int (xo), .ref wa], aI G va 8 (upd (upd v (0) ((v 0) ^^^ xa)) (1) ((v 1) ^^^ xb1)), aI G ia 16 (f), aI G wa 68 (w)] := h
  refine lv_aload_n hx hb dX2_processBlock_552 rfl (lv_at hl 0 rfl) ?_
  refine g_get hx hb C h (ci := 1) in_X2 rfl 0 rfl 4 (by decide) q61 rfl rfl dX2_processBlock_553 ?_
  refine lv_iconst (v := nI (2)) hx hb dX2_processBlock_556 (by decide) ?_
  refine lv_dup2_11 hx hb dX2_processBlock_557 rfl rfl ?_
  refine g_ild (j := 2) hx hb C h 1 rfl (by decide) (by decide) dX2_processBlock_558 ?_
  refine tp_i (y := v 2) (rfl) ?_
  refine lv_iload_n hx hb dX2_processBlock_559 rfl (lv_at hl 3 rfl) ?_
  refine lv_ixor hx hb dX2_processBlock_560 ?_
  refine g_ist (j := 2) hx hb C h 1 rfl (by decide) (by decide) dX2_processBlock_561 (fun H locs h => ?_)
  have h : HS G A s H locs [oD d [.ref pu, .ref xb, .int (xbo), .long (bc), .ref va, .ref ia, .int (xo), .ref wa], aI G va 8 (upd (upd (upd v (0) ((v 0) ^^^ xa)) (1) ((v 1) ^^^ xb1)) (2) ((v 2) ^^^ xc)), aI G ia 16 (f), aI G wa 68 (w)] := h
  refine lv_aload_n hx hb dX2_processBlock_562 rfl (lv_at hl 0 rfl) ?_
  refine g_get hx hb C h (ci := 1) in_X2 rfl 0 rfl 4 (by decide) q61 rfl rfl dX2_processBlock_563 ?_
  refine lv_iconst (v := nI (3)) hx hb dX2_processBlock_566 (by decide) ?_
  refine lv_dup2_11 hx hb dX2_processBlock_567 rfl rfl ?_
  refine g_ild (j := 3) hx hb C h 1 rfl (by decide) (by decide) dX2_processBlock_568 ?_
  refine tp_i (y := v 3) (rfl) ?_
  refine lv_iload hx hb dX2_processBlock_569 (lv_at hl 4 rfl) ?_
  refine lv_ixor hx hb dX2_processBlock_571 ?_
  refine g_ist (j := 3) hx hb C h 1 rfl (by decide) (by decide) dX2_processBlock_572 (fun H locs h => ?_)
  have h : HS G A s H locs [oD d [.ref pu, .ref xb, .int (xbo), .long (bc), .ref va, .ref ia, .int (xo), .ref wa], aI G va 8 (upd (upd (upd (upd v (0) ((v 0) ^^^ xa)) (1) ((v 1) ^^^ xb1)) (2) ((v 2) ^^^ xc)) (3) ((v 3) ^^^ xd)), aI G ia 16 (f), aI G wa 68 (w)] := h
  refine lv_aload_n hx hb dX2_processBlock_573 rfl (lv_at hl 0 rfl) ?_
  refine g_get hx hb C h (ci := 1) in_X2 rfl 0 rfl 4 (by decide) q61 rfl rfl dX2_processBlock_574 ?_
  refine lv_iconst (v := nI (4)) hx hb dX2_processBlock_577 (by decide) ?_
  refine lv_dup2_11 hx hb dX2_processBlock_578 rfl rfl ?_
  refine g_ild (j := 4) hx hb C h 1 rfl (by decide) (by decide) dX2_processBlock_579 ?_
  refine tp_i (y := v 4) (rfl) ?_
  refine lv_iload hx hb dX2_processBlock_580 (lv_at hl 5 rfl) ?_
  refine lv_ixor hx hb dX2_processBlock_582 ?_
  refine g_ist (j := 4) hx hb C h 1 rfl (by decide) (by decide) dX2_processBlock_583 (fun H locs h => ?_)
  have h : HS G A s H locs [oD d [.ref pu, .ref xb, .int (xbo), .long (bc), .ref va, .ref ia, .int (xo), .ref wa], aI G va 8 (upd (upd (upd (upd (upd v (0) ((v 0) ^^^ xa)) (1) ((v 1) ^^^ xb1)) (2) ((v 2) ^^^ xc)) (3) ((v 3) ^^^ xd)) (4) ((v 4) ^^^ xe)), aI G ia 16 (f), aI G wa 68 (w)] := h
  refine lv_aload_n hx hb dX2_processBlock_584 rfl (lv_at hl 0 rfl) ?_
  refine g_get hx hb C h (ci := 1) in_X2 rfl 0 rfl 4 (by decide) q61 rfl rfl dX2_processBlock_585 ?_
  refine lv_iconst (v := nI (5)) hx hb dX2_processBlock_588 (by decide) ?_
  refine lv_dup2_11 hx hb dX2_processBlock_589 rfl rfl ?_
  refine g_ild (j := 5) hx hb C h 1 rfl (by decide) (by decide) dX2_processBlock_590 ?_
  refine tp_i (y := v 5) (rfl) ?_
  refine lv_iload hx hb dX2_processBlock_591 (lv_at hl 6 rfl) ?_
  refine lv_ixor hx hb dX2_processBlock_593 ?_
  refine g_ist (j := 5) hx hb C h 1 rfl (by decide) (by decide) dX2_processBlock_594 (fun H locs h => ?_)
  have h : HS G A s H locs [oD d [.ref pu, .ref xb, .int (xbo), .long (bc), .ref va, .ref ia, .int (xo), .ref wa], aI G va 8 (upd (upd (upd (upd (upd (upd v (0) ((v 0) ^^^ xa)) (1) ((v 1) ^^^ xb1)) (2) ((v 2) ^^^ xc)) (3) ((v 3) ^^^ xd)) (4) ((v 4) ^^^ xe)) (5) ((v 5) ^^^ xf)), aI G ia 16 (f), aI G wa 68 (w)] := h
  refine lv_aload_n hx hb dX2_processBlock_595 rfl (lv_at hl 0 rfl) ?_
  refine g_get hx hb C h (ci := 1) in_X2 rfl 0 rfl 4 (by decide) q61 rfl rfl dX2_processBlock_596 ?_
  refine lv_bipush (v := nI (6)) hx hb dX2_processBlock_599 (by decide) ?_
  refine lv_dup2_11 hx hb dX2_processBlock_601 rfl rfl ?_
  refine g_ild (j := 6) hx hb C h 1 rfl (by decide) (by decide) dX2_processBlock_602 ?_
  refine tp_i (y := v 6) (rfl) ?_
  refine lv_iload hx hb dX2_processBlock_603 (lv_at hl 7 rfl) ?_
  refine lv_ixor hx hb dX2_processBlock_605 ?_
  refine g_ist (j := 6) hx hb C h 1 rfl (by decide) (by decide) dX2_processBlock_606 (fun H locs h => ?_)
  have h : HS G A s H locs [oD d [.ref pu, .ref xb, .int (xbo), .long (bc), .ref va, .ref ia, .int (xo), .ref wa], aI G va 8 (upd (upd (upd (upd (upd (upd (upd v (0) ((v 0) ^^^ xa)) (1) ((v 1) ^^^ xb1)) (2) ((v 2) ^^^ xc)) (3) ((v 3) ^^^ xd)) (4) ((v 4) ^^^ xe)) (5) ((v 5) ^^^ xf)) (6) ((v 6) ^^^ xg)), aI G ia 16 (f), aI G wa 68 (w)] := h
  refine lv_aload_n hx hb dX2_processBlock_607 rfl (lv_at hl 0 rfl) ?_
  refine g_get hx hb C h (ci := 1) in_X2 rfl 0 rfl 4 (by decide) q61 rfl rfl dX2_processBlock_608 ?_
  refine lv_bipush (v := nI (7)) hx hb dX2_processBlock_611 (by decide) ?_
  refine lv_dup2_11 hx hb dX2_processBlock_613 rfl rfl ?_
  refine g_ild (j := 7) hx hb C h 1 rfl (by decide) (by decide) dX2_processBlock_614 ?_
  refine tp_i (y := v 7) (rfl) ?_
  refine lv_iload hx hb dX2_processBlock_615 (lv_at hl 8 rfl) ?_
  refine lv_ixor hx hb dX2_processBlock_617 ?_
  refine g_ist (j := 7) hx hb C h 1 rfl (by decide) (by decide) dX2_processBlock_618 (fun H locs h => ?_)
  have h : HS G A s H locs [oD d [.ref pu, .ref xb, .int (xbo), .long (bc), .ref va, .ref ia, .int (xo), .ref wa], aI G va 8 (upd (upd (upd (upd (upd (upd (upd (upd v (0) ((v 0) ^^^ xa)) (1) ((v 1) ^^^ xb1)) (2) ((v 2) ^^^ xc)) (3) ((v 3) ^^^ xd)) (4) ((v 4) ^^^ xe)) (5) ((v 5) ^^^ xf)) (6) ((v 6) ^^^ xg)) (7) ((v 7) ^^^ xh)), aI G ia 16 (f), aI G wa 68 (w)] := h
  refine lv_aload_n hx hb dX2_processBlock_619 rfl (lv_at hl 0 rfl) ?_
  refine lv_iconst (v := 0) hx hb dX2_processBlock_620 (by decide) ?_
  refine g_put hx hb C h (ci := 1) in_X2 tyX2 tyX2_ok nmX2 rfl 0 rfl 6 (by decide) q63 rfl rfl rfl rfl (Nat.le_of_ble_eq_true rfl) dX2_processBlock_621 (fun H locs h => ?_)
  have h : HS G A s H locs [oD d [.ref pu, .ref xb, .int (xbo), .long (bc), .ref va, .ref ia, .int (0), .ref wa], aI G va 8 (upd (upd (upd (upd (upd (upd (upd (upd v (0) ((v 0) ^^^ xa)) (1) ((v 1) ^^^ xb1)) (2) ((v 2) ^^^ xc)) (3) ((v 3) ^^^ xd)) (4) ((v 4) ^^^ xe)) (5) ((v 5) ^^^ xf)) (6) ((v 6) ^^^ xg)) (7) ((v 7) ^^^ xh)), aI G ia 16 (f), aI G wa 68 (w)] := h
  exact retV hx hb hr hk (_, _) h ((show _ = x8 (v8 v) (xa, xb1, xc, xd, xe, xf, xg, xh) from rfl).trans (by rw [hq, rnds_congr 64 hw]; rfl)) dX2_processBlock_624
end
section
/-! SM3Digest and GeneralDigest over processBlock -/
set_option maxRecDepth 100000
set_option maxHeartbeats 4000000 in
/-- SM3Digest.processWord: a word more -/
theorem c_X2_processWord (l : Launch) (G : GG) (d pu xb va ia wa : Nat) (b n j k sz : Nat) (xbo xo : Int32) (bc : Int64) (v iw wk f sq : Nat → Int32) (hj : j + 3 < n) (hn : n < 2 ^ 31) (hD : DW sq k v iw xo) (hw : be f j = sq k) : CtV l G yX2_processWord cX2_processWord 3 2 60 0 0 [.ref d, .ref b, .int (nI j)] [oD d [.ref pu, .ref xb, .int (xbo), .long (bc), .ref va, .ref ia, .int (xo), .ref wa], aI G va 8 (v), aI G ia 16 (iw), aI G wa 68 (wk), aB G b n (f)] sz (fun u : S4 => DW sq (k + 1) u.1 u.2.1 u.2.2.2) (fun u => [oD d [.ref pu, .ref xb, .int (xbo), .long (bc), .ref va, .ref ia, .int (u.2.2.2), .ref wa], aI G va 8 (u.1), aI G ia 16 (u.2.1), aI G wa 68 (u.2.2.1), aB G b n (f)]) := by
  obtain rfl : xo = nI (k % 16) := hD.2.1
  refine entV "SM3Digest" rfl (by decide +kernel) (Nat.le_of_ble_eq_true rfl) ?_
  intro p e s m below meth c A ls hx hb hr hk hml hin hsz C h hl
  have hl : lv_has ls 3 [(0, .ref d), (1, .ref b), (2, .int (nI (j)))] := hl
  refine lv_aload_n hx hb dX2_processWord_0 rfl (lv_at hl 0 rfl) ?_
  refine g_get hx hb C h (ci := 1) in_X2 rfl 0 rfl 5 (by decide) q62 rfl rfl dX2_processWord_1 ?_
  refine lv_aload_n hx hb dX2_processWord_4 rfl (lv_at hl 0 rfl) ?_
  refine lv_dup hx hb dX2_processWord_5 rfl ?_
  refine g_get hx hb C h (ci := 1) in_X2 rfl 0 rfl 6 (by decide) q63 rfl rfl dX2_processWord_6 ?_
  refine lv_dup_x1 hx hb dX2_processWord_9 rfl rfl ?_
  refine lv_iconst (v := nI (1)) hx hb dX2_processWord_10 (by decide) ?_
  refine lv_iadd hx hb dX2_processWord_11 ?_
  refine tp_i (y := nI (k % 16 + 1)) (nI_add (k % 16) (1)) ?_
  refine g_put hx hb C h (ci := 1) in_X2 tyX2 tyX2_ok nmX2 rfl 0 rfl 6 (by decide) q63 rfl rfl rfl rfl (Nat.le_of_ble_eq_true rfl) dX2_processWord_12 (fun H locs h => ?_)
  have h : HS G A s _ _ [oD d [.ref pu, .ref xb, .int (xbo), .long (bc), .ref va, .ref ia, .int (nI (k % 16 + 1)), .ref wa], aI G va 8 (v), aI G ia 16 (iw), aI G wa 68 (wk), aB G b n (f)] := h
  refine lv_aload_n hx hb dX2_processWord_15 rfl (lv_at hl 1 rfl) ?_
  refine lv_iload_n hx hb dX2_processWord_16 rfl (lv_at hl 2 rfl) ?_
  refine kSp (rest := [.int (nI (k % 16)), .ref ia]) (na := 2) hx hb hml C h (c_X4_bigEndianToInt l G b n j _ f hj hn) (lw_S q151 q152 q22 q153) (by decide +kernel) rfl ⟨Nat.le_of_ble_eq_true rfl, Nat.le_of_ble_eq_true rfl⟩ [4] (by decide) rfl hl.1 rfl (Nat.le_of_ble_eq_true rfl) ⟨Nat.le_of_ble_eq_true rfl, Nat.le_of_ble_eq_true rfl⟩ dX2_processWord_17 (fun r_20 hp => ?_)
  obtain rfl : r_20 = be f j := hp
  refine g_ist (j := k % 16) hx hb C h 2 rfl (by omega) (by decide) dX2_processWord_20 (fun H locs h => ?_)
  have h : HS G A s _ _ [oD d [.ref pu, .ref xb, .int (xbo), .long (bc), .ref va, .ref ia, .int (nI (k % 16 + 1)), .ref wa], aI G va 8 (v), aI G ia 16 (upd iw (k % 16) (be f j)), aI G wa 68 (wk), aB G b n (f)] := h
  refine lv_aload_n hx hb dX2_processWord_21 rfl (lv_at hl 0 rfl) ?_
  refine g_get hx hb C h (ci := 1) in_X2 rfl 0 rfl 6 (by decide) q63 rfl rfl dX2_processWord_22 ?_
  refine lv_bipush (v := nI (16)) hx hb dX2_processWord_25 (by decide) ?_
  refine lv_icmp_lt (tgt := 34) hx hb dX2_processWord_27 (by decide) (fun c_1 => ?_) (fun c_1 => ?_)
  · skip
    have hk15 : k % 16 < 15 := by
      have := (nI_ltI (a := k % 16 + 1) (b := 16) (by omega) (by decide)).mp c_1
      omega
    exact retV hx hb hr hk (v, upd iw (k % 16) (be f j), wk, nI (k % 16 + 1)) h (hD.push hk15 hw) dX2_processWord_34
  · skip
    have hk15 : k % 16 = 15 := by
      have : ¬ (k % 16 + 1 < 16) := fun q => c_1 ((nI_ltI (a := k % 16 + 1) (b := 16) (by omega) (by decide)).mpr q)
      omega
    refine lv_aload_n hx hb dX2_processWord_30 rfl (lv_at hl 0 rfl) ?_
    refine kVv (Cn := "SM3Digest") (wr := [aB G b n (f)]) (rest := []) (na := 0) hx hb hml C h (c_X2_processBlock l G d pu xb va ia wa _ xbo (nI (k % 16 + 1)) bc v (upd iw (k % 16) (be f j)) wk) (lw_V q154 q155 q156 q17 q157) (by decide +kernel) rfl ⟨Nat.le_of_ble_eq_true rfl, Nat.le_of_ble_eq_true rfl⟩ 0 rfl rfl rfl [0, 1, 2, 3] (by decide) rfl [4] (by decide) rfl (by decide) hl.1 rfl (Nat.le_of_ble_eq_true rfl) ⟨Nat.le_of_ble_eq_true rfl, Nat.le_of_ble_eq_true rfl⟩ dX2_processWord_31 (fun u H locs hp h => ?_)
    obtain ⟨v1, wk1⟩ := u
    have h : HS G A s _ _ [aB G b n (f), oD d [.ref pu, .ref xb, .int (xbo), .long (bc), .ref va, .ref ia, .int (0), .ref wa], aI G va 8 (v1), aI G ia 16 (upd iw (k % 16) (be f j)), aI G wa 68 (wk1)] := h
    have h := h.sub (ws' := [oD d [.ref pu, .ref xb, .int (xbo), .long (bc), .ref va, .ref ia, .int (0), .ref wa], aI G va 8 (v1), aI G ia 16 (upd iw (k % 16) (be f j)), aI G wa 68 (wk1), aB G b n (f)]) [1, 2, 3, 4, 0] (by decide) rfl
    exact retV hx hb hr hk (v1, upd iw (k % 16) (be f j), wk1, 0) h (by rw [hk15] at hp; exact hD.full hk15 hw hp _) dX2_processWord_34
set_option maxHeartbeats 4000000 in
theorem lp_X2_processLength {p : Program} {l : Launch} {e : Env} {s : State} {m : MethodId} {args : Array Value} {below : List Frame} {meth : Method} {c : Code} {Q : State → Prop} {G : GG} {A : Nat → Prop} (d pu xb va ia wa : Nat) (bc bl : Int64) (xbo : Int32) (v sq : Nat → Int32) (q k0 : Nat) (hz : ∀ i, 16 * q ≤ i → i < 16 * q + 14 → k0 ≤ i → sq i = 0) (hx : p.tables.exec = Jvm.exec) (hb : c.code = cX2_processLength) (hml : c.maxLocals = 3) (C : CX G A s args m "SM3Digest")
    (kx : ∀ (iw wk : Nat → Int32) (H : Heap) (locs : List Loc) (ls : Array Slot), DW sq (16 * q + 14) v iw (nI 14) → HS G A s H locs [oD d [.ref pu, .ref xb, .int (xbo), .long (bc), .ref va, .ref ia, .int (nI 14), .ref wa], aI G va 8 (v), aI G ia 16 (iw), aI G wa 68 (wk)] → lv_has ls 3 [(0, .ref d), (1, .long (bl))] → W p l e (rmc 2 60 0 0) s m args below meth c H locs 0 0 Q (F0 m 65 ls [])) :
    ∀ (r k : Nat) (iw wk : Nat → Int32) (xo : Int32) (H : Heap) (locs : List Loc) (ls : Array Slot), k + r = 16 * q + 14 → 16 * q ≤ k → k0 ≤ k → DW sq k v iw xo → HS G A s H locs [oD d [.ref pu, .ref xb, .int (xbo), .long (bc), .ref va, .ref ia, .int (xo), .ref wa], aI G va 8 (v), aI G ia 16 (iw), aI G wa 68 (wk)] → lv_has ls 3 [(0, .ref d), (1, .long (bl))] → W p l e (rmc 2 60 0 0) s m args below meth c H locs 0 0 Q (F0 m 33 ls []) := by
  intro r
  induction r with
  | zero =>
    intro k iw wk xo H locs ls hr hq hk0 hD h hl
    obtain rfl : k = 16 * q + 14 := by omega
    have e14 : (16 * q + 14) % 16 = 14 := by omega
    obtain rfl : xo = nI 14 := by rw [hD.2.1, e14]
    refine lv_aload_n hx hb dX2_processLength_33 rfl (lv_at hl 0 rfl) ?_
    refine g_get hx hb C h (ci := 1) in_X2 rfl 0 rfl 6 (by decide) q63 rfl rfl dX2_processLength_34 ?_
    refine lv_bipush (v := nI (14)) hx hb dX2_processLength_37 (by decide) ?_
    refine lv_icmp_ge (tgt := 65) hx hb dX2_processLength_39 (by decide) (fun _ => ?_) (fun c_ => absurd (Int32.le_refl _) c_)
    exact kx iw wk H locs ls hD h hl
  | succ r ih =>
    intro k iw wk xo H locs ls hr hq hk0 hD h hl
    obtain rfl : xo = nI (k % 16) := hD.2.1
    refine lv_aload_n hx hb dX2_processLength_33 rfl (lv_at hl 0 rfl) ?_
    refine g_get hx hb C h (ci := 1) in_X2 rfl 0 rfl 6 (by decide) q63 rfl rfl dX2_processLength_34 ?_
    refine lv_bipush (v := nI (14)) hx hb dX2_processLength_37 (by decide) ?_
    refine lv_icmp_ge (tgt := 65) hx hb dX2_processLength_39 (by decide) (fun c_ => absurd c_ (nI_ge (a := k % 16) (b := 14) (by omega) (by decide))) (fun _ => ?_)
    refine lv_aload_n hx hb dX2_processLength_42 rfl (lv_at hl 0 rfl) ?_
    refine g_get hx hb C h (ci := 1) in_X2 rfl 0 rfl 5 (by decide) q62 rfl rfl dX2_processLength_43 ?_
    refine lv_aload_n hx hb dX2_processLength_46 rfl (lv_at hl 0 rfl) ?_
    refine g_get hx hb C h (ci := 1) in_X2 rfl 0 rfl 6 (by decide) q63 rfl rfl dX2_processLength_47 ?_
    refine lv_iconst (v := nI (0)) hx hb dX2_processLength_50 (by decide) ?_
    refine tp_i (y := 0) (rfl) ?_
    refine g_ist (j := k % 16) hx hb C h 2 rfl (by omega) (by decide) dX2_processLength_51 (fun H locs h => ?_)
    have h : HS G A s _ _ [oD d [.ref pu, .ref xb, .int (xbo), .long (bc), .ref va, .ref ia, .int (nI (k % 16)), .ref wa], aI G va 8 (v), aI G ia 16 (upd iw (k % 16) (0)), aI G wa 68 (wk)] := h
    refine lv_aload_n hx hb dX2_processLength_52 rfl (lv_at hl 0 rfl) ?_
    refine lv_dup hx hb dX2_processLength_53 rfl ?_
    refine g_get hx hb C h (ci := 1) in_X2 rfl 0 rfl 6 (by decide) q63 rfl rfl dX2_processLength_54 ?_
    refine lv_iconst (v := nI (1)) hx hb dX2_processLength_57 (by decide) ?_
    refine lv_iadd hx hb dX2_processLength_58 ?_
    refine tp_i (y := nI (k % 16 + 1)) (nI_add (k % 16) (1)) ?_
    refine g_put hx hb C h (ci := 1) in_X2 tyX2 tyX2_ok nmX2 rfl 0 rfl 6 (by decide) q63 rfl rfl rfl rfl (Nat.le_of_ble_eq_true rfl) dX2_processLength_59 (fun H locs h => ?_)
    have h : HS G A s _ _ [oD d [.ref pu, .ref xb, .int (xbo), .long (bc), .ref va, .ref ia, .int (nI (k % 16 + 1)), .ref wa], aI G va 8 (v), aI G ia 16 (upd iw (k % 16) (0)), aI G wa 68 (wk)] := h
    refine lv_goto (tgt := 33) hx hb dX2_processLength_62 (by decide) ?_
    exact ih (k + 1) _ _ _ H locs ls (by omega) (by omega) (by omega) (hD.push (by omega) (hz k hq (by omega) hk0).symm) h hl
set_option maxHeartbeats 4000000 in
/-- SM3Digest.processLength: zeros, and the length in the last two words -/
theorem c_X2_processLength (l : Launch) (G : GG) (d pu xb va ia wa : Nat) (k q sz : Nat) (xbo xo : Int32) (bc bl : Int64) (v iw wk sq : Nat → Int32) (hD : DW sq k v iw xo) (hq : (k + 1) / 16 = q) (hz : ∀ i, k ≤ i → i < 16 * q + 14 → sq i = 0) (h14 : sq (16 * q + 14) = (bl.toUInt64 >>> (((32 : Int32)).toInt64.toUInt64 &&& Int64.toUInt64 63)).toInt64.toInt32) (h15 : sq (16 * q + 15) = bl.toInt32) : CtV l G yX2_processLength cX2_processLength 3 2 60 0 0 [.ref d, .long (bl)] [oD d [.ref pu, .ref xb, .int (xbo), .long (bc), .ref va, .ref ia, .int (xo), .ref wa], aI G va 8 (v), aI G ia 16 (iw), aI G wa 68 (wk)] sz (fun u : (Nat → Int32) × (Nat → Int32) × (Nat → Int32) => v8 u.1 = chn sq q ∧ ∀ i, i < 16 → u.2.1 i = sq (16 * q + i)) (fun u => [oD d [.ref pu, .ref xb, .int (xbo), .long (bc), .ref va, .ref ia, .int (nI 16), .ref wa], aI G va 8 (u.1), aI G ia 16 (u.2.1), aI G wa 68 (u.2.2)]) := by
  obtain rfl : xo = nI (k % 16) := hD.2.1
  refine entV "SM3Digest" rfl (by decide +kernel) (Nat.le_of_ble_eq_true rfl) ?_
  intro p e s m below meth c A ls hx hb hr hk hml hin hsz C h hl
  have hl : lv_has ls 3 [(0, .ref d), (1, .long (bl))] := hl
  have tail : ∀ (v1 iw1 wk1 : Nat → Int32) (H : Heap) (locs : List Loc) (ls : Array Slot), DW sq (16 * q + 14) v1 iw1 (nI 14) → HS G A s H locs [oD d [.ref pu, .ref xb, .int (xbo), .long (bc), .ref va, .ref ia, .int (nI 14), .ref wa], aI G va 8 (v1), aI G ia 16 (iw1), aI G wa 68 (wk1)] → lv_has ls 3 [(0, .ref d), (1, .long (bl))] → W p l e (rmc 2 60 0 0) s m [.ref d, .long bl].toArray below meth c H locs 0 0 (MQ below (va_Qv (fun u : (Nat → Int32) × (Nat → Int32) × (Nat → Int32) => v8 u.1 = chn sq q ∧ ∀ i, i < 16 → u.2.1 i = sq (16 * q + i)) (WB G A (fun u => [oD d [.ref pu, .ref xb, .int (xbo), .long (bc), .ref va, .ref ia, .int (nI 16), .ref wa], aI G va 8 (u.1), aI G ia 16 (u.2.1), aI G wa 68 (u.2.2)])) A) [.ref d, .long bl].toArray s 0 0 A) (F0 m 65 ls []) := by
    intro v1 iw1 wk1 H locs ls hD1 h hl
    refine lv_aload_n hx hb dX2_processLength_65 rfl (lv_at hl 0 rfl) ?_
    refine g_get hx hb C h (ci := 1) in_X2 rfl 0 rfl 5 (by decide) q62 rfl rfl dX2_processLength_66 ?_
    refine lv_aload_n hx hb dX2_processLength_69 rfl (lv_at hl 0 rfl) ?_
    refine lv_dup hx hb dX2_processLength_70 rfl ?_
    refine g_get hx hb C h (ci := 1) in_X2 rfl 0 rfl 6 (by decide) q63 rfl rfl dX2_processLength_71 ?_
    refine lv_dup_x1 hx hb dX2_processLength_74 rfl rfl ?_
    refine lv_iconst (v := nI (1)) hx hb dX2_processLength_75 (by decide) ?_
    refine lv_iadd hx hb dX2_processLength_76 ?_
    refine tp_i (y := nI (14 + 1)) (nI_add (14) (1)) ?_
    refine g_put hx hb C h (ci := 1) in_X2 tyX2 tyX2_ok nmX2 rfl 0 rfl 6 (by decide) q63 rfl rfl rfl rfl (Nat.le_of_ble_eq_true rfl) dX2_processLength_77 (fun H locs h => ?_)
    have h : HS G A s _ _ [oD d [.ref pu, .ref xb, .int (xbo), .long (bc), .ref va, .ref ia, .int (nI (14 + 1)), .ref wa], aI G va 8 (v1), aI G ia 16 (iw1), aI G wa 68 (wk1)] := h
    refine lv_lload_n hx hb dX2_processLength_80 rfl (lv_at hl 1 rfl) ?_
    refine lv_bipush (v := 32) hx hb dX2_processLength_81 (by decide) ?_
    refine lv_lushr (v := ((bl).toUInt64 >>> (((32 : Int32)).toInt64.toUInt64 &&& Int64.toUInt64 63)).toInt64) hx hb dX2_processLength_83 rfl ?_
    refine lv_l2i (v := ((((bl).toUInt64 >>> (((32 : Int32)).toInt64.toUInt64 &&& Int64.toUInt64 63)).toInt64)).toInt32) hx hb dX2_processLength_84 rfl ?_
    refine g_ist (j := 14) hx hb C h 2 rfl (by decide) (by decide) dX2_processLength_85 (fun H locs h => ?_)
    have h : HS G A s _ _ [oD d [.ref pu, .ref xb, .int (xbo), .long (bc), .ref va, .ref ia, .int (nI (14 + 1)), .ref wa], aI G va 8 (v1), aI G ia 16 (upd iw1 (14) (((((bl).toUInt64 >>> (((32 : Int32)).toInt64.toUInt64 &&& Int64.toUInt64 63)).toInt64)).toInt32)), aI G wa 68 (wk1)] := h
    refine lv_aload_n hx hb dX2_processLength_86 rfl (lv_at hl 0 rfl) ?_
    refine g_get hx hb C h (ci := 1) in_X2 rfl 0 rfl 5 (by decide) q62 rfl rfl dX2_processLength_87 ?_
    refine lv_aload_n hx hb dX2_processLength_90 rfl (lv_at hl 0 rfl) ?_
    refine lv_dup hx hb dX2_processLength_91 rfl ?_
    refine g_get hx hb C h (ci := 1) in_X2 rfl 0 rfl 6 (by decide) q63 rfl rfl dX2_processLength_92 ?_
    refine lv_dup_x1 hx hb dX2_processLength_95 rfl rfl ?_
    refine lv_iconst (v := nI (1)) hx hb dX2_processLength_96 (by decide) ?_
    refine lv_iadd hx hb dX2_processLength_97 ?_
    refine tp_i (y := nI (14 + 1 + 1)) (nI_add (14 + 1) (1)) ?_
    refine g_put hx hb C h (ci := 1) in_X2 tyX2 tyX2_ok nmX2 rfl 0 rfl 6 (by decide) q63 rfl rfl rfl rfl (Nat.le_of_ble_eq_true rfl) dX2_processLength_98 (fun H locs h => ?_)
    have h : HS G A s _ _ [oD d [.ref pu, .ref xb, .int (xbo), .long (bc), .ref va, .ref ia, .int (nI (14 + 1 + 1)), .ref wa], aI G va 8 (v1), aI G ia 16 (upd iw1 (14) (((((bl).toUInt64 >>> (((32 : Int32)).toInt64.toUInt64 &&& Int64.toUInt64 63)).toInt64)).toInt32)), aI G wa 68 (wk1)] := h
    refine lv_lload_n hx hb dX2_processLength_101 rfl (lv_at hl 1 rfl) ?_
    refine lv_l2i (v := (bl).toInt32) hx hb dX2_processLength_102 rfl ?_
    refine g_ist (j := 14 + 1) hx hb C h 2 rfl (by omega) (by decide) dX2_processLength_103 (fun H locs h => ?_)
    have h : HS G A s _ _ [oD d [.ref pu, .ref xb, .int (xbo), .long (bc), .ref va, .ref ia, .int (nI (14 + 1 + 1)), .ref wa], aI G va 8 (v1), aI G ia 16 (upd (upd iw1 (14) (((((bl).toUInt64 >>> (((32 : Int32)).toInt64.toUInt64 &&& Int64.toUInt64 63)).toInt64)).toInt32)) (14 + 1) ((bl).toInt32)), aI G wa 68 (wk1)] := h
    have e16 : (16 * q + 14) / 16 = q := by omega
    have e14 : (16 * q + 14) % 16 = 14 := by omega
    exact retV hx hb hr hk (v1, upd (upd iw1 (14) (((((bl).toUInt64 >>> (((32 : Int32)).toInt64.toUInt64 &&& Int64.toUInt64 63)).toInt64)).toInt32)) (14 + 1) ((bl).toInt32), wk1) h ⟨by rw [← e16]; exact hD1.1, fun i hi => by
      show (upd (upd iw1 (14) (((((bl).toUInt64 >>> (((32 : Int32)).toInt64.toUInt64 &&& Int64.toUInt64 63)).toInt64)).toInt32)) (14 + 1) ((bl).toInt32)) i = _
      by_cases hc : i = 15
      · subst hc; exact Eq.trans (pk_us (k := 15)) h15.symm
      · refine Eq.trans (pk_un (k := 15) hc) ?_
        by_cases hd : i = 14
        · subst hd; exact pk_us.trans h14.symm
        · refine (pk_un hd).trans ?_
          have := hD1.2.2 i (by omega)
          rw [e16] at this
          exact this⟩ dX2_processLength_104
  refine lv_aload_n hx hb dX2_processLength_0 rfl (lv_at hl 0 rfl) ?_
  refine g_get hx hb C h (ci := 1) in_X2 rfl 0 rfl 6 (by decide) q63 rfl rfl dX2_processLength_1 ?_
  refine lv_bipush (v := nI (14)) hx hb dX2_processLength_4 (by decide) ?_
  refine lv_icmp_le (tgt := 33) hx hb dX2_processLength_6 (by decide) (fun c_1 => ?_) (fun c_1 => ?_)
  · skip
    have hk14 : k % 16 ≤ 14 := (nI_leI (a := k % 16) (b := 14) (by omega) (by decide)).mp c_1
    exact lp_X2_processLength d pu xb va ia wa bc bl xbo v sq q k (fun i h1 h2 h3 => hz i h3 h2) hx hb hml C (fun iw1 wk1 H locs ls hD1 h hl => tail v iw1 wk1 H locs ls hD1 h hl) (16 * q + 14 - k) k iw wk _ _ _ ls (by omega) (by omega) (Nat.le_refl k) hD h hl
  · skip
    have hk15 : k % 16 = 15 := by
      have : ¬ (k % 16 ≤ 14) := fun q => c_1 ((nI_leI (a := k % 16) (b := 14) (by omega) (by decide)).mpr q)
      omega
    refine lv_aload_n hx hb dX2_processLength_9 rfl (lv_at hl 0 rfl) ?_
    refine g_get hx hb C h (ci := 1) in_X2 rfl 0 rfl 5 (by decide) q62 rfl rfl dX2_processLength_10 ?_
    refine lv_aload_n hx hb dX2_processLength_13 rfl (lv_at hl 0 rfl) ?_
    refine g_get hx hb C h (ci := 1) in_X2 rfl 0 rfl 6 (by decide) q63 rfl rfl dX2_processLength_14 ?_
    refine lv_iconst (v := nI (0)) hx hb dX2_processLength_17 (by decide) ?_
    refine tp_i (y := 0) (rfl) ?_
    refine g_ist (j := k % 16) hx hb C h 2 rfl (by omega) (by decide) dX2_processLength_18 (fun H locs h => ?_)
    have h : HS G A s _ _ [oD d [.ref pu, .ref xb, .int (xbo), .long (bc), .ref va, .ref ia, .int (nI (k % 16)), .ref wa], aI G va 8 (v), aI G ia 16 (upd iw (k % 16) (0)), aI G wa 68 (wk)] := h
    refine lv_aload_n hx hb dX2_processLength_19 rfl (lv_at hl 0 rfl) ?_
    refine lv_dup hx hb dX2_processLength_20 rfl ?_
    refine g_get hx hb C h (ci := 1) in_X2 rfl 0 rfl 6 (by decide) q63 rfl rfl dX2_processLength_21 ?_
    refine lv_iconst (v := nI (1)) hx hb dX2_processLength_24 (by decide) ?_
    refine lv_iadd hx hb dX2_processLength_25 ?_
    refine tp_i (y := nI (k % 16 + 1)) (nI_add (k % 16) (1)) ?_
    refine g_put hx hb C h (ci := 1) in_X2 tyX2 tyX2_ok nmX2 rfl 0 rfl 6 (by decide) q63 rfl rfl rfl rfl (Nat.le_of_ble_eq_true rfl) dX2_processLength_26 (fun H locs h => ?_)
    have h : HS G A s _ _ [oD d [.ref pu, .ref xb, .int (xbo), .long (bc), .ref va, .ref ia, .int (nI (k % 16 + 1)), .ref wa], aI G va 8 (v), aI G ia 16 (upd iw (k % 16) (0)), aI G wa 68 (wk)] := h
    refine lv_aload_n hx hb dX2_processLength_29 rfl (lv_at hl 0 rfl) ?_
    refine kVv (Cn := "SM3Digest") (wr := []) (rest := []) (na := 0) hx hb hml C h (c_X2_processBlock l G d pu xb va ia wa _ xbo (nI (k % 16 + 1)) bc v (upd iw (k % 16) 0) wk) (lw_V q154 q155 q156 q17 q157) (by decide +kernel) rfl ⟨Nat.le_of_ble_eq_true rfl, Nat.le_of_ble_eq_true rfl⟩ 0 rfl rfl rfl [0, 1, 2, 3] (by decide) rfl [] (by decide) rfl (by decide) hl.1 rfl (Nat.le_of_ble_eq_true rfl) ⟨Nat.le_of_ble_eq_true rfl, Nat.le_of_ble_eq_true rfl⟩ dX2_processLength_30 (fun u H locs hp h => ?_)
    obtain ⟨v1, wk1⟩ := u
    have h : HS G A s _ _ [oD d [.ref pu, .ref xb, .int (xbo), .long (bc), .ref va, .ref ia, .int (0), .ref wa], aI G va 8 (v1), aI G ia 16 (upd iw (k % 16) 0), aI G wa 68 (wk1)] := h
    have hD1 : DW sq (k + 1) v1 (upd iw (k % 16) 0) (nI 0) := by rw [hk15] at hp ⊢; exact hD.full hk15 (hz k (Nat.le_refl k) (by omega)).symm hp _
    exact lp_X2_processLength d pu xb va ia wa bc bl xbo v1 sq q (k + 1) (fun i h1 h2 h3 => hz i (by omega) h2) hx hb hml C (fun iw1 wk1 H locs ls hD1 h hl => tail v1 iw1 wk1 H locs ls hD1 h hl) 14 (k + 1) (upd iw (k % 16) 0) wk1 (nI 0) _ _ ls (by omega) (by omega) (Nat.le_refl _) hD1 h hl
set_option maxHeartbeats 4000000 in
/-- GeneralDigest.reset: no bytes -/
theorem c_X1_reset (l : Launch) (G : GG) (d pu xb va ia wa : Nat) (sz : Nat) (xbo xo : Int32) (bc : Int64) (xf : Nat → Int32) : CtV l G yX1_reset cX1_reset 2 0 0 0 0 [.ref d] [oD d [.ref pu, .ref xb, .int (xbo), .long (bc), .ref va, .ref ia, .int (xo), .ref wa], aB G xb 4 (xf)] sz (fun _ : Nat → Int32 => True) (fun u => [oD d [.ref pu, .ref xb, .int 0, .long 0, .ref va, .ref ia, .int xo, .ref wa], aB G xb 4 u]) := by
  refine entV "GeneralDigest" rfl (by decide +kernel) (Nat.le_of_ble_eq_true rfl) ?_
  intro p e s m below meth c A ls hx hb hr hk hml hin hsz C h hl
  have hl : lv_has ls 2 [(0, .ref d)] := hl
  refine lv_aload_n hx hb dX1_reset_0 rfl (lv_at hl 0 rfl) ?_
  refine lv_lconst (v := 0) hx hb dX1_reset_1 (by decide) ?_
  refine g_put hx hb C h (ci := 1) in_X2 tyX2 tyX2_ok nmX2 rfl 0 rfl 3 (by decide) q68 rfl rfl rfl rfl (Nat.le_of_ble_eq_true rfl) dX1_reset_2 (fun H locs h => ?_)
  have h : HS G A s _ _ [oD d [.ref pu, .ref xb, .int (xbo), .long (0), .ref va, .ref ia, .int (xo), .ref wa], aB G xb 4 (xf)] := h
  refine lv_aload_n hx hb dX1_reset_5 rfl (lv_at hl 0 rfl) ?_
  refine lv_iconst (v := 0) hx hb dX1_reset_6 (by decide) ?_
  refine g_put hx hb C h (ci := 1) in_X2 tyX2 tyX2_ok nmX2 rfl 0 rfl 2 (by decide) q67 rfl rfl rfl rfl (Nat.le_of_ble_eq_true rfl) dX1_reset_7 (fun H locs h => ?_)
  have h : HS G A s _ _ [oD d [.ref pu, .ref xb, .int (0), .long (0), .ref va, .ref ia, .int (xo), .ref wa], aB G xb 4 (xf)] := h
  refine lv_iconst (v := nI (0)) hx hb dX1_reset_10 (by decide) ?_
  refine lv_istore_n (lv' := [(1, .int (nI (0))), (0, .ref d)]) hx hb dX1_reset_11 rfl hl (by decide) rfl (fun ls hl => ?_)
  refine lv_iload_n hx hb dX1_reset_12 rfl (lv_at hl 0 rfl) ?_
  refine lv_aload_n hx hb dX1_reset_13 rfl (lv_at hl 1 rfl) ?_
  refine g_get hx hb C h (ci := 1) in_X2 rfl 0 rfl 1 (by decide) q66 rfl rfl dX1_reset_14 ?_
  refine g_blen hx hb C h 1 rfl dX1_reset_17 ?_
  refine lv_icmp_ge (tgt := 34) hx hb dX1_reset_18 (by decide) (fun c_ => absurd c_ (by decide +kernel)) (fun _ => ?_)
  refine lv_aload_n hx hb dX1_reset_21 rfl (lv_at hl 1 rfl) ?_
  refine g_get hx hb C h (ci := 1) in_X2 rfl 0 rfl 1 (by decide) q66 rfl rfl dX1_reset_22 ?_
  refine lv_iload_n hx hb dX1_reset_25 rfl (lv_at hl 0 rfl) ?_
  refine lv_iconst (v := nI (0)) hx hb dX1_reset_26 (by decide) ?_
  refine tp_i (y := 0) (rfl) ?_
  refine g_bst (j := 0) (v := 0) hx hb C h 1 rfl (by decide) (by decide) (by decide) dX1_reset_27 (fun H locs h => ?_)
  have h : HS G A s _ _ [oD d [.ref pu, .ref xb, .int (0), .long (0), .ref va, .ref ia, .int (xo), .ref wa], aB G xb 4 (upd xf (0) (0))] := h
  refine lv_iinc (v := nI (0 + 1)) (lv' := [(1, .int (nI (0 + 1))), (0, .ref d)]) hx hb dX1_reset_28 hl (k := 0) rfl (ii1 (0)) (by decide) rfl (fun ls hl => ?_)
  refine lv_goto (tgt := 12) hx hb dX1_reset_31 (by decide) ?_
  refine lv_iload_n hx hb dX1_reset_12 rfl (lv_at hl 0 rfl) ?_
  refine lv_aload_n hx hb dX1_reset_13 rfl (lv_at hl 1 rfl) ?_
  refine g_get hx hb C h (ci := 1) in_X2 rfl 0 rfl 1 (by decide) q66 rfl rfl dX1_reset_14 ?_
  refine g_blen hx hb C h 1 rfl dX1_reset_17 ?_
  refine lv_icmp_ge (tgt := 34) hx hb dX1_reset_18 (by decide) (fun c_ => absurd c_ (by decide +kernel)) (fun _ => ?_)
  refine lv_aload_n hx hb dX1_reset_21 rfl (lv_at hl 1 rfl) ?_
  refine g_get hx hb C h (ci := 1) in_X2 rfl 0 rfl 1 (by decide) q66 rfl rfl dX1_reset_22 ?_
  refine lv_iload_n hx hb dX1_reset_25 rfl (lv_at hl 0 rfl) ?_
  refine lv_iconst (v := nI (0)) hx hb dX1_reset_26 (by decide) ?_
  refine tp_i (y := 0) (rfl) ?_
  refine g_bst (j := 0 + 1) (v := 0) hx hb C h 1 rfl (by omega) (by decide) (by decide) dX1_reset_27 (fun H locs h => ?_)
  have h : HS G A s _ _ [oD d [.ref pu, .ref xb, .int (0), .long (0), .ref va, .ref ia, .int (xo), .ref wa], aB G xb 4 (upd (upd xf (0) (0)) (0 + 1) (0))] := h
  refine lv_iinc (v := nI (0 + 1 + 1)) (lv' := [(1, .int (nI (0 + 1 + 1))), (0, .ref d)]) hx hb dX1_reset_28 hl (k := 0) rfl (ii1 (0 + 1)) (by decide) rfl (fun ls hl => ?_)
  refine lv_goto (tgt := 12) hx hb dX1_reset_31 (by decide) ?_
  refine lv_iload_n hx hb dX1_reset_12 rfl (lv_at hl 0 rfl) ?_
  refine lv_aload_n hx hb dX1_reset_13 rfl (lv_at hl 1 rfl) ?_
  refine g_get hx hb C h (ci := 1) in_X2 rfl 0 rfl 1 (by decide) q66 rfl rfl dX1_reset_14 ?_
  refine g_blen hx hb C h 1 rfl dX1_reset_17 ?_
  refine lv_icmp_ge (tgt := 34) hx hb dX1_reset_18 (by decide) (fun c_ => absurd c_ (by decide +kernel)) (fun _ => ?_)
  refine lv_aload_n hx hb dX1_reset_21 rfl (lv_at hl 1 rfl) ?_
  refine g_get hx hb C h (ci := 1) in_X2 rfl 0 rfl 1 (by decide) q66 rfl rfl dX1_reset_22 ?_
  refine lv_iload_n hx hb dX1_reset_25 rfl (lv_at hl 0 rfl) ?_
  refine lv_iconst (v := nI (0)) hx hb dX1_reset_26 (by decide) ?_
  refine tp_i (y := 0) (rfl) ?_
  refine g_bst (j := 0 + 1 + 1) (v := 0) hx hb C h 1 rfl (by omega) (by decide) (by decide) dX1_reset_27 (fun H locs h => ?_)
  have h : HS G A s _ _ [oD d [.ref pu, .ref xb, .int (0), .long (0), .ref va, .ref ia, .int (xo), .ref wa], aB G xb 4 (upd (upd (upd xf (0) (0)) (0 + 1) (0)) (0 + 1 + 1) (0))] := h
  refine lv_iinc (v := nI (0 + 1 + 1 + 1)) (lv' := [(1, .int (nI (0 + 1 + 1 + 1))), (0, .ref d)]) hx hb dX1_reset_28 hl (k := 0) rfl (ii1 (0 + 1 + 1)) (by decide) rfl (fun ls hl => ?_)
  refine lv_goto (tgt := 12) hx hb dX1_reset_31 (by decide) ?_
  refine lv_iload_n hx hb dX1_reset_12 rfl (lv_at hl 0 rfl) ?_
  refine lv_aload_n hx hb dX1_reset_13 rfl (lv_at hl 1 rfl) ?_
  refine g_get hx hb C h (ci := 1) in_X2 rfl 0 rfl 1 (by decide) q66 rfl rfl dX1_reset_14 ?_
  refine g_blen hx hb C h 1 rfl dX1_reset_17 ?_
  refine lv_icmp_ge (tgt := 34) hx hb dX1_reset_18 (by decide) (fun c_ => absurd c_ (by decide +kernel)) (fun _ => ?_)
  refine lv_aload_n hx hb dX1_reset_21 rfl (lv_at hl 1 rfl) ?_
  refine g_get hx hb C h (ci := 1) in_X2 rfl 0 rfl 1 (by decide) q66 rfl rfl dX1_reset_22 ?_
  refine lv_iload_n hx hb dX1_reset_25 rfl (lv_at hl 0 rfl) ?_
  refine lv_iconst (v := nI (0)) hx hb dX1_reset_26 (by decide) ?_
  refine tp_i (y := 0) (rfl) ?_
  refine g_bst (j := 0 + 1 + 1 + 1) (v := 0) hx hb C h 1 rfl (by omega) (by decide) (by decide) dX1_reset_27 (fun H locs h => ?_)
  have h : HS G A s _ _ [oD d [.ref pu, .ref xb, .int (0), .long (0), .ref va, .ref ia, .int (xo), .ref wa], aB G xb 4 (upd (upd (upd (upd xf (0) (0)) (0 + 1) (0)) (0 + 1 + 1) (0)) (0 + 1 + 1 + 1) (0))] := h
  refine lv_iinc (v := nI (0 + 1 + 1 + 1 + 1)) (lv' := [(1, .int (nI (0 + 1 + 1 + 1 + 1))), (0, .ref d)]) hx hb dX1_reset_28 hl (k := 0) rfl (ii1 (0 + 1 + 1 + 1)) (by decide) rfl (fun ls hl => ?_)
  refine lv_goto (tgt := 12) hx hb dX1_reset_31 (by decide) ?_
  refine lv_iload_n hx hb dX1_reset_12 rfl (lv_at hl 0 rfl) ?_
  refine lv_aload_n hx hb dX1_reset_13 rfl (lv_at hl 1 rfl) ?_
  refine g_get hx hb C h (ci := 1) in_X2 rfl 0 rfl 1 (by decide) q66 rfl rfl dX1_reset_14 ?_
  refine g_blen hx hb C h 1 rfl dX1_reset_17 ?_
  refine lv_icmp_ge (tgt := 34) hx hb dX1_reset_18 (by decide) (fun _ => ?_) (fun c_ => absurd (by decide +kernel) c_)
  exact retV hx hb hr hk (upd (upd (upd (upd xf (0) (0)) (0 + 1) (0)) (0 + 1 + 1) (0)) (0 + 1 + 1 + 1) (0)) h (trivial) dX1_reset_34
set_option maxHeartbeats 4000000 in
/-- SM3Digest.reset: nothing taken -/
theorem c_X2_reset (l : Launch) (G : GG) (d pu xb va ia wa : Nat) (sz : Nat) (xbo xo : Int32) (bc : Int64) (v iw wk xf msg : Nat → Int32) : CtV l G yX2_reset cX2_reset 1 1 21 0 0 [.ref d] [oD d [.ref pu, .ref xb, .int (xbo), .long (bc), .ref va, .ref ia, .int (xo), .ref wa], aI G va 8 (v), aI G ia 16 (iw), aI G wa 68 (wk), aB G xb 4 (xf)] sz (fun u : S6 => DU msg 0 u) (dW G d pu xb va ia wa 0) := by
  refine entV "SM3Digest" rfl (by decide +kernel) (Nat.le_of_ble_eq_true rfl) ?_
  intro p e s m below meth c A ls hx hb hr hk hml hin hsz C h hl
  have hl : lv_has ls 1 [(0, .ref d)] := hl
  refine lv_aload_n hx hb dX2_reset_0 rfl (lv_at hl 0 rfl) ?_
  refine kDv (Cn := "SM3Digest") (wr := [aI G va 8 (v), aI G ia 16 (iw), aI G wa 68 (wk)]) (rest := []) (na := 0) hx hb hml C h (c_X1_reset l G d pu xb va ia wa _ xbo xo bc xf) (lw_app (lw_c5 q49 q356 q50 q51 q16) (lw_meth q52)) (by decide +kernel) rfl ⟨Nat.le_of_ble_eq_true rfl, Nat.le_of_ble_eq_true rfl⟩ 0 rfl rfl rfl [0, 4] (by decide) rfl [1, 2, 3] (by decide) rfl (by decide) hl.1 rfl (Nat.le_of_ble_eq_true rfl) ⟨Nat.le_of_ble_eq_true rfl, Nat.le_of_ble_eq_true rfl⟩ dX2_reset_1 (fun xf1 H locs hp h => ?_)
  have h : HS G A s _ _ [aI G va 8 (v), aI G ia 16 (iw), aI G wa 68 (wk), oD d [.ref pu, .ref xb, .int (0), .long (0), .ref va, .ref ia, .int (xo), .ref wa], aB G xb 4 (xf1)] := h
  have h := h.sub (ws' := [oD d [.ref pu, .ref xb, .int (0), .long (0), .ref va, .ref ia, .int (xo), .ref wa], aI G va 8 (v), aI G ia 16 (iw), aI G wa 68 (wk), aB G xb 4 (xf1)]) [3, 0, 1, 2, 4] (by decide) rfl
  refine lv_aload_n hx hb dX2_reset_4 rfl (lv_at hl 0 rfl) ?_
  refine g_get hx hb C h (ci := 1) in_X2 rfl 0 rfl 4 (by decide) q61 rfl rfl dX2_reset_5 ?_
  refine lv_iconst (v := nI (0)) hx hb dX2_reset_8 (by decide) ?_
  refine lv_ldc (v := 1937774191) hx hb C.2.2.2.1 (C.2.2.2.2 _ q53) dX2_reset_9 ?_
  refine g_ist (j := 0) hx hb C h 1 rfl (by decide) (by decide) dX2_reset_11 (fun H locs h => ?_)
  have h : HS G A s _ _ [oD d [.ref pu, .ref xb, .int (0), .long (0), .ref va, .ref ia, .int (xo), .ref wa], aI G va 8 (upd v (0) (1937774191)), aI G ia 16 (iw), aI G wa 68 (wk), aB G xb 4 (xf1)] := h
  refine lv_aload_n hx hb dX2_reset_12 rfl (lv_at hl 0 rfl) ?_
  refine g_get hx hb C h (ci := 1) in_X2 rfl 0 rfl 4 (by decide) q61 rfl rfl dX2_reset_13 ?_
  refine lv_iconst (v := nI (1)) hx hb dX2_reset_16 (by decide) ?_
  refine lv_ldc (v := 1226093241) hx hb C.2.2.2.1 (C.2.2.2.2 _ q54) dX2_reset_17 ?_
  refine g_ist (j := 1) hx hb C h 1 rfl (by decide) (by decide) dX2_reset_19 (fun H locs h => ?_)
  have h : HS G A s _ _ [oD d [.ref pu, .ref xb, .int (0), .long (0), .ref va, .ref ia, .int (xo), .ref wa], aI G va 8 (upd (upd v (0) (1937774191)) (1) (1226093241)), aI G ia 16 (iw), aI G wa 68 (wk), aB G xb 4 (xf1)] := h
  refine lv_aload_n hx hb dX2_reset_20 rfl (lv_at hl 0 rfl) ?_
  refine g_get hx hb C h (ci := 1) in_X2 rfl 0 rfl 4 (by decide) q61 rfl rfl dX2_reset_21 ?_
  refine lv_iconst (v := nI (2)) hx hb dX2_reset_24 (by decide) ?_
  refine lv_ldc (v := 388252375) hx hb C.2.2.2.1 (C.2.2.2.2 _ q55) dX2_reset_25 ?_
  refine g_ist (j := 2) hx hb C h 1 rfl (by decide) (by decide) dX2_reset_27 (fun H locs h => ?_)
  have h : HS G A s _ _ [oD d [.ref pu, .ref xb, .int (0), .long (0), .ref va, .ref ia, .int (xo), .ref wa], aI G va 8 (upd (upd (upd v (0) (1937774191)) (1) (1226093241)) (2) (388252375)), aI G ia 16 (iw), aI G wa 68 (wk), aB G xb 4 (xf1)] := h
  refine lv_aload_n hx hb dX2_reset_28 rfl (lv_at hl 0 rfl) ?_
  refine g_get hx hb C h (ci := 1) in_X2 rfl 0 rfl 4 (by decide) q61 rfl rfl dX2_reset_29 ?_
  refine lv_iconst (v := nI (3)) hx hb dX2_reset_32 (by decide) ?_
  refine lv_ldc (v := -628488704) hx hb C.2.2.2.1 (C.2.2.2.2 _ q56) dX2_reset_33 ?_
  refine g_ist (j := 3) hx hb C h 1 rfl (by decide) (by decide) dX2_reset_35 (fun H locs h => ?_)
  have h : HS G A s _ _ [oD d [.ref pu, .ref xb, .int (0), .long (0), .ref va, .ref ia, .int (xo), .ref wa], aI G va 8 (upd (upd (upd (upd v (0) (1937774191)) (1) (1226093241)) (2) (388252375)) (3) ((-628488704))), aI G ia 16 (iw), aI G wa 68 (wk), aB G xb 4 (xf1)] := h
  refine lv_aload_n hx hb dX2_reset_36 rfl (lv_at hl 0 rfl) ?_
  refine g_get hx hb C h (ci := 1) in_X2 rfl 0 rfl 4 (by decide) q61 rfl rfl dX2_reset_37 ?_
  refine lv_iconst (v := nI (4)) hx hb dX2_reset_40 (by decide) ?_
  refine lv_ldc (v := -1452330820) hx hb C.2.2.2.1 (C.2.2.2.2 _ q57) dX2_reset_41 ?_
  refine g_ist (j := 4) hx hb C h 1 rfl (by decide) (by decide) dX2_reset_43 (fun H locs h => ?_)
  have h : HS G A s _ _ [oD d [.ref pu, .ref xb, .int (0), .long (0), .ref va, .ref ia, .int (xo), .ref wa], aI G va 8 (upd (upd (upd (upd (upd v (0) (1937774191)) (1) (1226093241)) (2) (388252375)) (3) ((-628488704))) (4) ((-1452330820))), aI G ia 16 (iw), aI G wa 68 (wk), aB G xb 4 (xf1)] := h
  refine lv_aload_n hx hb dX2_reset_44 rfl (lv_at hl 0 rfl) ?_
  refine g_get hx hb C h (ci := 1) in_X2 rfl 0 rfl 4 (by decide) q61 rfl rfl dX2_reset_45 ?_
  refine lv_iconst (v := nI (5)) hx hb dX2_reset_48 (by decide) ?_
  refine lv_ldc (v := 372324522) hx hb C.2.2.2.1 (C.2.2.2.2 _ q58) dX2_reset_49 ?_
  refine g_ist (j := 5) hx hb C h 1 rfl (by decide) (by decide) dX2_reset_51 (fun H locs h => ?_)
  have h : HS G A s _ _ [oD d [.ref pu, .ref xb, .int (0), .long (0), .ref va, .ref ia, .int (xo), .ref wa], aI G va 8 (upd (upd (upd (upd (upd (upd v (0) (1937774191)) (1) (1226093241)) (2) (388252375)) (3) ((-628488704))) (4) ((-1452330820))) (5) (372324522)), aI G ia 16 (iw), aI G wa 68 (wk), aB G xb 4 (xf1)] := h
  refine lv_aload_n hx hb dX2_reset_52 rfl (lv_at hl 0 rfl) ?_
  refine g_get hx hb C h (ci := 1) in_X2 rfl 0 rfl 4 (by decide) q61 rfl rfl dX2_reset_53 ?_
  refine lv_bipush (v := nI (6)) hx hb dX2_reset_56 (by decide) ?_
  refine lv_ldc (v := -477237683) hx hb C.2.2.2.1 (C.2.2.2.2 _ q59) dX2_reset_58 ?_
  refine g_ist (j := 6) hx hb C h 1 rfl (by decide) (by decide) dX2_reset_60 (fun H locs h => ?_)
  have h : HS G A s _ _ [oD d [.ref pu, .ref xb, .int (0), .long (0), .ref va, .ref ia, .int (xo), .ref wa], aI G va 8 (upd (upd (upd (upd (upd (upd (upd v (0) (1937774191)) (1) (1226093241)) (2) (388252375)) (3) ((-628488704))) (4) ((-1452330820))) (5) (372324522)) (6) ((-477237683))), aI G ia 16 (iw), aI G wa 68 (wk), aB G xb 4 (xf1)] := h
  refine lv_aload_n hx hb dX2_reset_61 rfl (lv_at hl 0 rfl) ?_
  refine g_get hx hb C h (ci := 1) in_X2 rfl 0 rfl 4 (by decide) q61 rfl rfl dX2_reset_62 ?_
  refine lv_bipush (v := nI (7)) hx hb dX2_reset_65 (by decide) ?_
  refine lv_ldc (v := -1325724082) hx hb C.2.2.2.1 (C.2.2.2.2 _ q60) dX2_reset_67 ?_
  refine g_ist (j := 7) hx hb C h 1 rfl (by decide) (by decide) dX2_reset_69 (fun H locs h => ?_)
  have h : HS G A s _ _ [oD d [.ref pu, .ref xb, .int (0), .long (0), .ref va, .ref ia, .int (xo), .ref wa], aI G va 8 (upd (upd (upd (upd (upd (upd (upd (upd v (0) (1937774191)) (1) (1226093241)) (2) (388252375)) (3) ((-628488704))) (4) ((-1452330820))) (5) (372324522)) (6) ((-477237683))) (7) ((-1325724082))), aI G ia 16 (iw), aI G wa 68 (wk), aB G xb 4 (xf1)] := h
  refine lv_aload_n hx hb dX2_reset_70 rfl (lv_at hl 0 rfl) ?_
  refine lv_iconst (v := 0) hx hb dX2_reset_71 (by decide) ?_
  refine g_put hx hb C h (ci := 1) in_X2 tyX2 tyX2_ok nmX2 rfl 0 rfl 6 (by decide) q63 rfl rfl rfl rfl (Nat.le_of_ble_eq_true rfl) dX2_reset_72 (fun H locs h => ?_)
  have h : HS G A s _ _ [oD d [.ref pu, .ref xb, .int (0), .long (0), .ref va, .ref ia, .int (0), .ref wa], aI G va 8 (upd (upd (upd (upd (upd (upd (upd (upd v (0) (1937774191)) (1) (1226093241)) (2) (388252375)) (3) ((-628488704))) (4) ((-1452330820))) (5) (372324522)) (6) ((-477237683))) (7) ((-1325724082))), aI G ia 16 (iw), aI G wa 68 (wk), aB G xb 4 (xf1)] := h
  exact retV hx hb hr hk (upd (upd (upd (upd (upd (upd (upd (upd v (0) (1937774191)) (1) (1226093241)) (2) (388252375)) (3) ((-628488704))) (4) ((-1452330820))) (5) (372324522)) (6) ((-477237683))) (7) ((-1325724082)), iw, wk, xf1, 0, 0) h (DB.zero msg _ _ _ rfl) dX2_reset_75
set_option maxHeartbeats 4000000 in
/-- GeneralDigest.update(byte): a byte more -/
theorem c_X1_update_2 (l : Launch) (G : GG) (d pu xb va ia wa : Nat) (n sz : Nat) (xbo xo bb : Int32) (v iw wk xf msg : Nat → Int32) (hbb : vp_nar .byte bb = bb) (hD : DB msg n v iw xf xo xbo) (hm : bb = msg n) : CtV l G yX1_update_2 cX1_update_2 2 3 82 0 0 [.ref d, .int (bb)] [oD d [.ref pu, .ref xb, .int (xbo), .long (lN n), .ref va, .ref ia, .int (xo), .ref wa], aI G va 8 (v), aI G ia 16 (iw), aI G wa 68 (wk), aB G xb 4 (xf)] sz (fun u : S6 => DU msg (n + 1) u) (dW G d pu xb va ia wa (lN (n + 1))) := by
  obtain rfl : xbo = nI (n % 4) := hD.2.1
  obtain rfl : xo = nI (n / 4 % 16) := hD.1.2.1
  refine entV "GeneralDigest" rfl (by decide +kernel) (Nat.le_of_ble_eq_true rfl) ?_
  intro p e s m below meth c A ls hx hb hr hk hml hin hsz C h hl
  have hl : lv_has ls 2 [(0, .ref d), (1, .int (bb))] := hl
  refine lv_aload_n hx hb dX1_update_2_0 rfl (lv_at hl 0 rfl) ?_
  refine g_get hx hb C h (ci := 1) in_X2 rfl 0 rfl 1 (by decide) q66 rfl rfl dX1_update_2_1 ?_
  refine lv_aload_n hx hb dX1_update_2_4 rfl (lv_at hl 0 rfl) ?_
  refine lv_dup hx hb dX1_update_2_5 rfl ?_
  refine g_get hx hb C h (ci := 1) in_X2 rfl 0 rfl 2 (by decide) q67 rfl rfl dX1_update_2_6 ?_
  refine lv_dup_x1 hx hb dX1_update_2_9 rfl rfl ?_
  refine lv_iconst (v := nI (1)) hx hb dX1_update_2_10 (by decide) ?_
  refine lv_iadd hx hb dX1_update_2_11 ?_
  refine tp_i (y := nI (n % 4 + 1)) (nI_add (n % 4) (1)) ?_
  refine g_put hx hb C h (ci := 1) in_X2 tyX2 tyX2_ok nmX2 rfl 0 rfl 2 (by decide) q67 rfl rfl rfl rfl (Nat.le_of_ble_eq_true rfl) dX1_update_2_12 (fun H locs h => ?_)
  have h : HS G A s _ _ [oD d [.ref pu, .ref xb, .int (nI (n % 4 + 1)), .long (lN n), .ref va, .ref ia, .int (nI (n / 4 % 16)), .ref wa], aI G va 8 (v), aI G ia 16 (iw), aI G wa 68 (wk), aB G xb 4 (xf)] := h
  refine lv_iload_n hx hb dX1_update_2_15 rfl (lv_at hl 1 rfl) ?_
  refine g_bst (j := n % 4) (v := bb) hx hb C h 4 rfl (by omega) (by decide) (hbb) dX1_update_2_16 (fun H locs h => ?_)
  have h : HS G A s _ _ [oD d [.ref pu, .ref xb, .int (nI (n % 4 + 1)), .long (lN n), .ref va, .ref ia, .int (nI (n / 4 % 16)), .ref wa], aI G va 8 (v), aI G ia 16 (iw), aI G wa 68 (wk), aB G xb 4 (upd xf (n % 4) (bb))] := h
  refine lv_aload_n hx hb dX1_update_2_17 rfl (lv_at hl 0 rfl) ?_
  refine g_get hx hb C h (ci := 1) in_X2 rfl 0 rfl 2 (by decide) q67 rfl rfl dX1_update_2_18 ?_
  refine lv_aload_n hx hb dX1_update_2_21 rfl (lv_at hl 0 rfl) ?_
  refine g_get hx hb C h (ci := 1) in_X2 rfl 0 rfl 1 (by decide) q66 rfl rfl dX1_update_2_22 ?_
  refine g_blen hx hb C h 4 rfl dX1_update_2_25 ?_
  refine lv_icmp_ne (tgt := 43) hx hb dX1_update_2_26 (by decide) (fun c_1 => ?_) (fun c_1 => ?_)
  · skip
    have hn3 : n % 4 < 3 := by
      have : ¬ (n % 4 + 1 = 4) := fun q => c_1 ((nI_eq (a := n % 4 + 1) (b := 4) (by omega) (by decide)).mpr q)
      omega
    refine lv_aload_n hx hb dX1_update_2_43 rfl (lv_at hl 0 rfl) ?_
    refine lv_dup hx hb dX1_update_2_44 rfl ?_
    refine g_get hx hb C h (ci := 1) in_X2 rfl 0 rfl 3 (by decide) q68 rfl rfl dX1_update_2_45 ?_
    refine lv_lconst (v := 1) hx hb dX1_update_2_48 (by decide) ?_
    refine lv_ladd hx hb dX1_update_2_49 ?_
    refine tp_l (y := lN (n + 1)) (lN_1 n) ?_
    refine g_put hx hb C h (ci := 1) in_X2 tyX2 tyX2_ok nmX2 rfl 0 rfl 3 (by decide) q68 rfl rfl rfl rfl (Nat.le_of_ble_eq_true rfl) dX1_update_2_50 (fun H locs h => ?_)
    have h : HS G A s _ _ [oD d [.ref pu, .ref xb, .int (nI (n % 4 + 1)), .long (lN (n + 1)), .ref va, .ref ia, .int (nI (n / 4 % 16)), .ref wa], aI G va 8 (v), aI G ia 16 (iw), aI G wa 68 (wk), aB G xb 4 (upd xf (n % 4) (bb))] := h
    exact retV hx hb hr hk (v, iw, wk, upd xf (n % 4) bb, nI (n / 4 % 16), nI (n % 4 + 1)) h (hD.push hn3 hm) dX1_update_2_53
  · skip
    have hn3 : n % 4 = 3 := by
      have e := c_1
      have := (nI_eq (a := n % 4 + 1) (b := 4) (by omega) (by decide)).mp e
      omega
    refine lv_aload_n hx hb dX1_update_2_29 rfl (lv_at hl 0 rfl) ?_
    refine lv_aload_n hx hb dX1_update_2_30 rfl (lv_at hl 0 rfl) ?_
    refine g_get hx hb C h (ci := 1) in_X2 rfl 0 rfl 1 (by decide) q66 rfl rfl dX1_update_2_31 ?_
    refine lv_iconst (v := nI (0)) hx hb dX1_update_2_34 (by decide) ?_
    refine kAv (Cn := "SM3Digest") (wr := []) (rest := []) (na := 2) hx hb hml C h (c_X2_processWord l G d pu xb va ia wa xb 4 0 (n / 4) _ (nI (n % 4 + 1)) (nI (n / 4 % 16)) (lN n) v iw wk (upd xf (n % 4) bb) (wdm msg) (by decide) (by decide) hD.1 (hD.word hn3 hm)) (owner := "GeneralDigest") (x := ⟨"GeneralDigest", "processWord", "([BI)V"⟩) (lw_app (lw_c5 q145 q147 q148 q149 q17) (lw_meth q150)) C.2.1.2.1.1 (by decide +kernel) rfl ⟨Nat.le_of_ble_eq_true rfl, Nat.le_of_ble_eq_true rfl⟩ 0 rfl rfl rfl [0, 1, 2, 3, 4] (by decide) rfl [] (by decide) rfl (by decide) hl.1 rfl (Nat.le_of_ble_eq_true rfl) ⟨Nat.le_of_ble_eq_true rfl, Nat.le_of_ble_eq_true rfl⟩ dX1_update_2_35 (fun u H locs hp h => ?_)
    obtain ⟨v1, iw1, wk1, xo1⟩ := u
    have h : HS G A s _ _ [oD d [.ref pu, .ref xb, .int (nI (n % 4 + 1)), .long (lN n), .ref va, .ref ia, .int (xo1), .ref wa], aI G va 8 (v1), aI G ia 16 (iw1), aI G wa 68 (wk1), aB G xb 4 (upd xf (n % 4) bb)] := h
    refine lv_aload_n hx hb dX1_update_2_38 rfl (lv_at hl 0 rfl) ?_
    refine lv_iconst (v := 0) hx hb dX1_update_2_39 (by decide) ?_
    refine g_put hx hb C h (ci := 1) in_X2 tyX2 tyX2_ok nmX2 rfl 0 rfl 2 (by decide) q67 rfl rfl rfl rfl (Nat.le_of_ble_eq_true rfl) dX1_update_2_40 (fun H locs h => ?_)
    have h : HS G A s _ _ [oD d [.ref pu, .ref xb, .int (0), .long (lN n), .ref va, .ref ia, .int (xo1), .ref wa], aI G va 8 (v1), aI G ia 16 (iw1), aI G wa 68 (wk1), aB G xb 4 (upd xf (n % 4) bb)] := h
    refine lv_aload_n hx hb dX1_update_2_43 rfl (lv_at hl 0 rfl) ?_
    refine lv_dup hx hb dX1_update_2_44 rfl ?_
    refine g_get hx hb C h (ci := 1) in_X2 rfl 0 rfl 3 (by decide) q68 rfl rfl dX1_update_2_45 ?_
    refine lv_lconst (v := 1) hx hb dX1_update_2_48 (by decide) ?_
    refine lv_ladd hx hb dX1_update_2_49 ?_
    refine tp_l (y := lN (n + 1)) (lN_1 n) ?_
    refine g_put hx hb C h (ci := 1) in_X2 tyX2 tyX2_ok nmX2 rfl 0 rfl 3 (by decide) q68 rfl rfl rfl rfl (Nat.le_of_ble_eq_true rfl) dX1_update_2_50 (fun H locs h => ?_)
    have h : HS G A s _ _ [oD d [.ref pu, .ref xb, .int (0), .long (lN (n + 1)), .ref va, .ref ia, .int (xo1), .ref wa], aI G va 8 (v1), aI G ia 16 (iw1), aI G wa 68 (wk1), aB G xb 4 (upd xf (n % 4) bb)] := h
    exact retV hx hb hr hk (v1, iw1, wk1, upd xf (n % 4) bb, xo1, 0) h (DB.full hn3 hp _) dX1_update_2_53
set_option maxHeartbeats 4000000 in
theorem lp1_X1_update {p : Program} {l : Launch} {e : Env} {s : State} {m : MethodId} {args : Array Value} {below : List Frame} {meth : Method} {c : Code} {Q : State → Prop} {G : GG} {A : Nat → Prop} (d pu xb va ia wa : Nat) (b N f c0 n : Nat) (t msg : Nat → Int32) (hN : N < 2 ^ 30) (hf : f + c0 ≤ N) (hm : ∀ i, i < c0 → t (f + i) = msg (n + i)) (hmb : ∀ i, vp_nar .byte (msg i) = msg i) (hx : p.tables.exec = Jvm.exec) (hb : c.code = cX1_update) (hml : c.maxLocals = 6) (C : CX G A s args m "GeneralDigest")
    (kx : ∀ (i : Nat) (v iw wk xf : Nat → Int32) (xo xbo : Int32) (H : Heap) (locs : List Loc) (ls : Array Slot), i ≤ c0 → (i = c0 ∨ (n + i) % 4 = 0) → DB msg (n + i) v iw xf xo xbo → HS G A s H locs [oD d [.ref pu, .ref xb, .int (xbo), .long (lN n), .ref va, .ref ia, .int (xo), .ref wa], aI G va 8 (v), aI G ia 16 (iw), aI G wa 68 (wk), aB G xb 4 (xf), aB G b N (t)] → lv_has ls 6 [(0, .ref d), (1, .ref b), (2, .int (nI (f))), (3, .int (nI (c0))), (4, .int (nI (i)))] → W p l e (rmc 3 82 0 0) s m args below meth c H locs 0 0 Q (F0 m 72 ls [])) :
    ∀ (r i : Nat) (v iw wk xf : Nat → Int32) (xo xbo : Int32) (H : Heap) (locs : List Loc) (ls : Array Slot), i + r = c0 → (n + i) % 4 ≠ 0 → DB msg (n + i) v iw xf xo xbo → HS G A s H locs [oD d [.ref pu, .ref xb, .int (xbo), .long (lN n), .ref va, .ref ia, .int (xo), .ref wa], aI G va 8 (v), aI G ia 16 (iw), aI G wa 68 (wk), aB G xb 4 (xf), aB G b N (t)] → lv_has ls 6 [(0, .ref d), (1, .ref b), (2, .int (nI (f))), (3, .int (nI (c0))), (4, .int (nI (i)))] → W p l e (rmc 3 82 0 0) s m args below meth c H locs 0 0 Q (F0 m 16 ls []) := by
  intro r
  induction r with
  | zero =>
    intro i v iw wk xf xo xbo H locs ls hi h4 hD h hl
    obtain rfl : i = c0 := by omega
    refine lv_iload hx hb dX1_update_16 (lv_at hl 4 rfl) ?_
    refine lv_iload_n hx hb dX1_update_18 rfl (lv_at hl 3 rfl) ?_
    refine lv_icmp_ge (tgt := 72) hx hb dX1_update_19 (by decide) (fun _ => ?_) (fun c_ => absurd (Int32.le_refl _) c_)
    exact kx i v iw wk xf xo xbo H locs ls (Nat.le_refl _) (Or.inl rfl) hD h hl
  | succ r ih =>
    intro i v iw wk xf xo xbo H locs ls hi h4 hD h hl
    obtain rfl : xbo = nI ((n + i) % 4) := hD.2.1
    obtain rfl : xo = nI ((n + i) / 4 % 16) := hD.1.2.1
    refine lv_iload hx hb dX1_update_16 (lv_at hl 4 rfl) ?_
    refine lv_iload_n hx hb dX1_update_18 rfl (lv_at hl 3 rfl) ?_
    refine lv_icmp_ge (tgt := 72) hx hb dX1_update_19 (by decide) (fun c_ => absurd c_ (nI_ge (a := i) (b := c0) (by omega) (by omega))) (fun _ => ?_)
    refine lv_aload_n hx hb dX1_update_22 rfl (lv_at hl 0 rfl) ?_
    refine g_get hx hb C h (ci := 1) in_X2 rfl 0 rfl 1 (by decide) q66 rfl rfl dX1_update_23 ?_
    refine lv_aload_n hx hb dX1_update_26 rfl (lv_at hl 0 rfl) ?_
    refine lv_dup hx hb dX1_update_27 rfl ?_
    refine g_get hx hb C h (ci := 1) in_X2 rfl 0 rfl 2 (by decide) q67 rfl rfl dX1_update_28 ?_
    refine lv_dup_x1 hx hb dX1_update_31 rfl rfl ?_
    refine lv_iconst (v := nI (1)) hx hb dX1_update_32 (by decide) ?_
    refine lv_iadd hx hb dX1_update_33 ?_
    refine tp_i (y := nI ((n + i) % 4 + 1)) (nI_add ((n + i) % 4) (1)) ?_
    refine g_put hx hb C h (ci := 1) in_X2 tyX2 tyX2_ok nmX2 rfl 0 rfl 2 (by decide) q67 rfl rfl rfl rfl (Nat.le_of_ble_eq_true rfl) dX1_update_34 (fun H locs h => ?_)
    have h : HS G A s _ _ [oD d [.ref pu, .ref xb, .int (nI ((n + i) % 4 + 1)), .long (lN n), .ref va, .ref ia, .int (nI ((n + i) / 4 % 16)), .ref wa], aI G va 8 (v), aI G ia 16 (iw), aI G wa 68 (wk), aB G xb 4 (xf), aB G b N (t)] := h
    refine lv_aload_n hx hb dX1_update_37 rfl (lv_at hl 1 rfl) ?_
    refine lv_iload_n hx hb dX1_update_38 rfl (lv_at hl 2 rfl) ?_
    refine lv_iload hx hb dX1_update_39 (lv_at hl 4 rfl) ?_
    refine lv_iinc (v := nI (i + 1)) (lv' := [(4, .int (nI (i + 1))), (0, .ref d), (1, .ref b), (2, .int (nI (f))), (3, .int (nI (c0)))]) hx hb dX1_update_41 hl (k := 4) rfl (ii1 (i)) (by decide) rfl (fun ls hl => ?_)
    refine lv_iadd hx hb dX1_update_44 ?_
    refine tp_i (y := nI (f + i)) (nI_add (f) (i)) ?_
    refine g_bld (j := f + i) hx hb C h 5 rfl (by omega) (by omega) dX1_update_45 ?_
    refine tp_i (y := msg (n + i)) (hm i (by omega)) ?_
    refine g_bst (j := (n + i) % 4) (v := msg (n + i)) hx hb C h 4 rfl (by omega) (by decide) (hmb _) dX1_update_46 (fun H locs h => ?_)
    have h : HS G A s _ _ [oD d [.ref pu, .ref xb, .int (nI ((n + i) % 4 + 1)), .long (lN n), .ref va, .ref ia, .int (nI ((n + i) / 4 % 16)), .ref wa], aI G va 8 (v), aI G ia 16 (iw), aI G wa 68 (wk), aB G xb 4 (upd xf ((n + i) % 4) (msg (n + i))), aB G b N (t)] := h
    refine lv_aload_n hx hb dX1_update_47 rfl (lv_at hl 1 rfl) ?_
    refine g_get hx hb C h (ci := 1) in_X2 rfl 0 rfl 2 (by decide) q67 rfl rfl dX1_update_48 ?_
    refine lv_iconst (v := nI (4)) hx hb dX1_update_51 (by decide) ?_
    refine lv_icmp_ne (tgt := 16) hx hb dX1_update_52 (by decide) (fun c_1 => ?_) (fun c_1 => ?_)
    · skip
      have hn3 : (n + i) % 4 < 3 := by
        have : ¬ ((n + i) % 4 + 1 = 4) := fun q => c_1 ((nI_eq (a := (n + i) % 4 + 1) (b := 4) (by omega) (by decide)).mpr q)
        omega
      exact ih (i + 1) v iw wk _ _ _ H locs ls (by omega) (by omega) (by have := hD.push hn3 rfl; exact this) h (lv_sub hl [1, 2, 3, 4, 0] rfl)
    · skip
      have hn3 : (n + i) % 4 = 3 := by
        have e := c_1
        have := (nI_eq (a := (n + i) % 4 + 1) (b := 4) (by omega) (by decide)).mp e
        omega
      refine lv_aload_n hx hb dX1_update_55 rfl (lv_at hl 1 rfl) ?_
      refine lv_aload_n hx hb dX1_update_56 rfl (lv_at hl 1 rfl) ?_
      refine g_get hx hb C h (ci := 1) in_X2 rfl 0 rfl 1 (by decide) q66 rfl rfl dX1_update_57 ?_
      refine lv_iconst (v := nI (0)) hx hb dX1_update_60 (by decide) ?_
      refine kAv (Cn := "SM3Digest") (wr := [aB G b N (t)]) (rest := []) (na := 2) hx hb hml C h (c_X2_processWord l G d pu xb va ia wa xb 4 0 ((n + i) / 4) _ (nI ((n + i) % 4 + 1)) (nI ((n + i) / 4 % 16)) (lN n) v iw wk (upd xf ((n + i) % 4) (msg (n + i))) (wdm msg) (by decide) (by decide) hD.1 (hD.word hn3 rfl)) (owner := "GeneralDigest") (x := ⟨"GeneralDigest", "processWord", "([BI)V"⟩) (lw_app (lw_c5 q145 q147 q148 q149 q17) (lw_meth q150)) C.2.1.2.1.1 (by decide +kernel) rfl ⟨Nat.le_of_ble_eq_true rfl, Nat.le_of_ble_eq_true rfl⟩ 0 rfl rfl rfl [0, 1, 2, 3, 4] (by decide) rfl [5] (by decide) rfl (by decide) hl.1 rfl (Nat.le_of_ble_eq_true rfl) ⟨Nat.le_of_ble_eq_true rfl, Nat.le_of_ble_eq_true rfl⟩ dX1_update_61 (fun u H locs hp h => ?_)
      obtain ⟨v1, iw1, wk1, xo1⟩ := u
      have h : HS G A s _ _ [aB G b N (t), oD d [.ref pu, .ref xb, .int (nI ((n + i) % 4 + 1)), .long (lN n), .ref va, .ref ia, .int (xo1), .ref wa], aI G va 8 (v1), aI G ia 16 (iw1), aI G wa 68 (wk1), aB G xb 4 (upd xf ((n + i) % 4) (msg (n + i)))] := h
      have h := h.sub (ws' := [oD d [.ref pu, .ref xb, .int (nI ((n + i) % 4 + 1)), .long (lN n), .ref va, .ref ia, .int (xo1), .ref wa], aI G va 8 (v1), aI G ia 16 (iw1), aI G wa 68 (wk1), aB G xb 4 (upd xf ((n + i) % 4) (msg (n + i))), aB G b N (t)]) [1, 2, 3, 4, 5, 0] (by decide) rfl
      refine lv_aload_n hx hb dX1_update_64 rfl (lv_at hl 1 rfl) ?_
      refine lv_iconst (v := 0) hx hb dX1_update_65 (by decide) ?_
      refine g_put hx hb C h (ci := 1) in_X2 tyX2 tyX2_ok nmX2 rfl 0 rfl 2 (by decide) q67 rfl rfl rfl rfl (Nat.le_of_ble_eq_true rfl) dX1_update_66 (fun H locs h => ?_)
      have h : HS G A s _ _ [oD d [.ref pu, .ref xb, .int (0), .long (lN n), .ref va, .ref ia, .int (xo1), .ref wa], aI G va 8 (v1), aI G ia 16 (iw1), aI G wa 68 (wk1), aB G xb 4 (upd xf ((n + i) % 4) (msg (n + i))), aB G b N (t)] := h
      refine lv_goto (tgt := 72) hx hb dX1_update_69 (by decide) ?_
      exact kx (i + 1) v1 iw1 wk1 _ xo1 0 H locs ls (by omega) (Or.inr (by omega)) (DB.full hn3 hp _) h (lv_sub hl [1, 2, 3, 4, 0] rfl)
set_option maxHeartbeats 4000000 in
theorem lp2_X1_update {p : Program} {l : Launch} {e : Env} {s : State} {m : MethodId} {args : Array Value} {below : List Frame} {meth : Method} {c : Code} {Q : State → Prop} {G : GG} {A : Nat → Prop} (d pu xb va ia wa : Nat) (b N f c0 n : Nat) (t msg : Nat → Int32) (hN : N < 2 ^ 30) (hf : f + c0 ≤ N) (hm : ∀ i, i < c0 → t (f + i) = msg (n + i)) (hmb : ∀ i, vp_nar .byte (msg i) = msg i) (hx : p.tables.exec = Jvm.exec) (hb : c.code = cX1_update) (hml : c.maxLocals = 6) (C : CX G A s args m "GeneralDigest")
    (kx : ∀ (i : Nat) (v iw wk xf : Nat → Int32) (xo xbo : Int32) (H : Heap) (locs : List Loc) (ls : Array Slot), i ≤ c0 → (n + i) % 4 + (c0 - i) ≤ 3 → DB msg (n + i) v iw xf xo xbo → HS G A s H locs [oD d [.ref pu, .ref xb, .int (xbo), .long (lN n), .ref va, .ref ia, .int (xo), .ref wa], aI G va 8 (v), aI G ia 16 (iw), aI G wa 68 (wk), aB G xb 4 (xf), aB G b N (t)] → lv_has ls 6 [(0, .ref d), (1, .ref b), (2, .int (nI (f))), (3, .int (nI (c0))), (4, .int (nI (i)))] → W p l e (rmc 3 82 0 0) s m args below meth c H locs 0 0 Q (F0 m 99 ls [])) :
    ∀ (r i : Nat) (v iw wk xf : Nat → Int32) (xo xbo : Int32) (H : Heap) (locs : List Loc) (ls : Array Slot), i ≤ c0 → c0 - i < r → (i = c0 ∨ (n + i) % 4 = 0) → DB msg (n + i) v iw xf xo xbo → HS G A s H locs [oD d [.ref pu, .ref xb, .int (xbo), .long (lN n), .ref va, .ref ia, .int (xo), .ref wa], aI G va 8 (v), aI G ia 16 (iw), aI G wa 68 (wk), aB G xb 4 (xf), aB G b N (t)] → lv_has ls 6 [(0, .ref d), (1, .ref b), (2, .int (nI (f))), (3, .int (nI (c0))), (4, .int (nI (i))), (5, .int (nI c0 - nI 3))] → W p l e (rmc 3 82 0 0) s m args below meth c H locs 0 0 Q (F0 m 77 ls []) := by
  intro r
  induction r with
  | zero =>
    intro i v iw wk xf xo xbo H locs ls hi hr
    exact absurd hr (Nat.not_lt_zero _)
  | succ r ih =>
    intro i v iw wk xf xo xbo H locs ls hi hr h4 hD h hl
    refine lv_iload hx hb dX1_update_77 (lv_at hl 4 rfl) ?_
    refine lv_iload hx hb dX1_update_79 (lv_at hl 5 rfl) ?_
    refine lv_icmp_ge (tgt := 99) hx hb dX1_update_81 (by decide) (fun c_1 => ?_) (fun c_1 => ?_)
    · skip
      have hc := (lim_le (c := c0) (i := i) (by omega) (by omega)).mp c_1
      exact kx i v iw wk xf xo xbo H locs ls hi (by omega) hD h (lv_sub hl [0, 1, 2, 3, 4] rfl)
    · skip
      have hc : i + 3 < c0 := by
        have : ¬ (c0 ≤ i + 3) := fun q => c_1 ((lim_le (c := c0) (i := i) (by omega) (by omega)).mpr q)
        omega
      have h0 : (n + i) % 4 = 0 := by omega
      obtain rfl : xbo = nI ((n + i) % 4) := hD.2.1
      obtain rfl : xo = nI ((n + i) / 4 % 16) := hD.1.2.1
      refine lv_aload_n hx hb dX1_update_84 rfl (lv_at hl 0 rfl) ?_
      refine lv_aload_n hx hb dX1_update_85 rfl (lv_at hl 1 rfl) ?_
      refine lv_iload_n hx hb dX1_update_86 rfl (lv_at hl 2 rfl) ?_
      refine lv_iload hx hb dX1_update_87 (lv_at hl 4 rfl) ?_
      refine lv_iadd hx hb dX1_update_89 ?_
      refine tp_i (y := nI (f + i)) (nI_add (f) (i)) ?_
      refine kAv (Cn := "SM3Digest") (wr := [aB G xb 4 (xf)]) (rest := []) (na := 2) hx hb hml C h (c_X2_processWord l G d pu xb va ia wa b N (f + i) ((n + i) / 4) _ (nI ((n + i) % 4)) (nI ((n + i) / 4 % 16)) (lN n) v iw wk t (wdm msg) (by omega) (by omega) hD.1 (be_congr (fun j hj => by rw [Nat.add_assoc, hm (i + j) (by omega)]; congr 1; omega))) (owner := "GeneralDigest") (x := ⟨"GeneralDigest", "processWord", "([BI)V"⟩) (lw_app (lw_c5 q145 q147 q148 q149 q17) (lw_meth q150)) C.2.1.2.1.1 (by decide +kernel) rfl ⟨Nat.le_of_ble_eq_true rfl, Nat.le_of_ble_eq_true rfl⟩ 0 rfl rfl rfl [0, 1, 2, 3, 5] (by decide) rfl [4] (by decide) rfl (by decide) hl.1 rfl (Nat.le_of_ble_eq_true rfl) ⟨Nat.le_of_ble_eq_true rfl, Nat.le_of_ble_eq_true rfl⟩ dX1_update_90 (fun u H locs hp h => ?_)
      obtain ⟨v1, iw1, wk1, xo1⟩ := u
      have h : HS G A s _ _ [aB G xb 4 (xf), oD d [.ref pu, .ref xb, .int (nI ((n + i) % 4)), .long (lN n), .ref va, .ref ia, .int (xo1), .ref wa], aI G va 8 (v1), aI G ia 16 (iw1), aI G wa 68 (wk1), aB G b N (t)] := h
      have h := h.sub (ws' := [oD d [.ref pu, .ref xb, .int (nI ((n + i) % 4)), .long (lN n), .ref va, .ref ia, .int (xo1), .ref wa], aI G va 8 (v1), aI G ia 16 (iw1), aI G wa 68 (wk1), aB G xb 4 (xf), aB G b N (t)]) [1, 2, 3, 4, 0, 5] (by decide) rfl
      refine lv_iinc (v := nI (i + 4)) (lv' := [(4, .int (nI (i + 4))), (0, .ref d), (1, .ref b), (2, .int (nI (f))), (3, .int (nI (c0))), (5, .int (nI c0 - nI 3))]) hx hb dX1_update_93 hl (k := 4) rfl (ii4 (i)) (by decide) rfl (fun ls hl => ?_)
      refine lv_goto (tgt := 77) hx hb dX1_update_96 (by decide) ?_
      exact ih (i + 4) v1 iw1 wk1 xf xo1 _ H locs ls (by omega) (by omega) (Or.inr (by omega)) (by rw [h0]; exact DB.four h0 hp xf) h (lv_sub hl [1, 2, 3, 4, 0, 5] rfl)
set_option maxHeartbeats 4000000 in
theorem lp3_X1_update {p : Program} {l : Launch} {e : Env} {s : State} {m : MethodId} {args : Array Value} {below : List Frame} {meth : Method} {c : Code} {Q : State → Prop} {G : GG} {A : Nat → Prop} (d pu xb va ia wa : Nat) (b N f c0 n : Nat) (t msg : Nat → Int32) (hN : N < 2 ^ 30) (hf : f + c0 ≤ N) (hm : ∀ i, i < c0 → t (f + i) = msg (n + i)) (hmb : ∀ i, vp_nar .byte (msg i) = msg i) (hx : p.tables.exec = Jvm.exec) (hb : c.code = cX1_update) (hml : c.maxLocals = 6) (C : CX G A s args m "GeneralDigest")
    (kx : ∀ (v iw wk xf : Nat → Int32) (xo xbo : Int32) (H : Heap) (locs : List Loc) (ls : Array Slot), DB msg (n + c0) v iw xf xo xbo → HS G A s H locs [oD d [.ref pu, .ref xb, .int (xbo), .long (lN n), .ref va, .ref ia, .int (xo), .ref wa], aI G va 8 (v), aI G ia 16 (iw), aI G wa 68 (wk), aB G xb 4 (xf), aB G b N (t)] → lv_has ls 6 [(0, .ref d), (1, .ref b), (2, .int (nI (f))), (3, .int (nI (c0)))] → W p l e (rmc 3 82 0 0) s m args below meth c H locs 0 0 Q (F0 m 133 ls [])) :
    ∀ (r i : Nat) (v iw wk xf : Nat → Int32) (xo xbo : Int32) (H : Heap) (locs : List Loc) (ls : Array Slot), i + r = c0 → (n + i) % 4 + (c0 - i) ≤ 3 → DB msg (n + i) v iw xf xo xbo → HS G A s H locs [oD d [.ref pu, .ref xb, .int (xbo), .long (lN n), .ref va, .ref ia, .int (xo), .ref wa], aI G va 8 (v), aI G ia 16 (iw), aI G wa 68 (wk), aB G xb 4 (xf), aB G b N (t)] → lv_has ls 6 [(0, .ref d), (1, .ref b), (2, .int (nI (f))), (3, .int (nI (c0))), (4, .int (nI (i)))] → W p l e (rmc 3 82 0 0) s m args below meth c H locs 0 0 Q (F0 m 99 ls []) := by
  intro r
  induction r with
  | zero =>
    intro i v iw wk xf xo xbo H locs ls hi h4 hD h hl
    obtain rfl : i = c0 := by omega
    refine lv_iload hx hb dX1_update_99 (lv_at hl 4 rfl) ?_
    refine lv_iload_n hx hb dX1_update_101 rfl (lv_at hl 3 rfl) ?_
    refine lv_icmp_ge (tgt := 133) hx hb dX1_update_102 (by decide) (fun _ => ?_) (fun c_ => absurd (Int32.le_refl _) c_)
    exact kx v iw wk xf xo xbo H locs ls hD h (lv_sub hl [0, 1, 2, 3] rfl)
  | succ r ih =>
    intro i v iw wk xf xo xbo H locs ls hi h4 hD h hl
    obtain rfl : xbo = nI ((n + i) % 4) := hD.2.1
    refine lv_iload hx hb dX1_update_99 (lv_at hl 4 rfl) ?_
    refine lv_iload_n hx hb dX1_update_101 rfl (lv_at hl 3 rfl) ?_
    refine lv_icmp_ge (tgt := 133) hx hb dX1_update_102 (by decide) (fun c_ => absurd c_ (nI_ge (a := i) (b := c0) (by omega) (by omega))) (fun _ => ?_)
    refine lv_aload_n hx hb dX1_update_105 rfl (lv_at hl 0 rfl) ?_
    refine g_get hx hb C h (ci := 1) in_X2 rfl 0 rfl 1 (by decide) q66 rfl rfl dX1_update_106 ?_
    refine lv_aload_n hx hb dX1_update_109 rfl (lv_at hl 0 rfl) ?_
    refine lv_dup hx hb dX1_update_110 rfl ?_
    refine g_get hx hb C h (ci := 1) in_X2 rfl 0 rfl 2 (by decide) q67 rfl rfl dX1_update_111 ?_
    refine lv_dup_x1 hx hb dX1_update_114 rfl rfl ?_
    refine lv_iconst (v := nI (1)) hx hb dX1_update_115 (by decide) ?_
    refine lv_iadd hx hb dX1_update_116 ?_
    refine tp_i (y := nI ((n + i) % 4 + 1)) (nI_add ((n + i) % 4) (1)) ?_
    refine g_put hx hb C h (ci := 1) in_X2 tyX2 tyX2_ok nmX2 rfl 0 rfl 2 (by decide) q67 rfl rfl rfl rfl (Nat.le_of_ble_eq_true rfl) dX1_update_117 (fun H locs h => ?_)
    have h : HS G A s _ _ [oD d [.ref pu, .ref xb, .int (nI ((n + i) % 4 + 1)), .long (lN n), .ref va, .ref ia, .int (xo), .ref wa], aI G va 8 (v), aI G ia 16 (iw), aI G wa 68 (wk), aB G xb 4 (xf), aB G b N (t)] := h
    refine lv_aload_n hx hb dX1_update_120 rfl (lv_at hl 1 rfl) ?_
    refine lv_iload_n hx hb dX1_update_121 rfl (lv_at hl 2 rfl) ?_
    refine lv_iload hx hb dX1_update_122 (lv_at hl 4 rfl) ?_
    refine lv_iinc (v := nI (i + 1)) (lv' := [(4, .int (nI (i + 1))), (0, .ref d), (1, .ref b), (2, .int (nI (f))), (3, .int (nI (c0)))]) hx hb dX1_update_124 hl (k := 4) rfl (ii1 (i)) (by decide) rfl (fun ls hl => ?_)
    refine lv_iadd hx hb dX1_update_127 ?_
    refine tp_i (y := nI (f + i)) (nI_add (f) (i)) ?_
    refine g_bld (j := f + i) hx hb C h 5 rfl (by omega) (by omega) dX1_update_128 ?_
    refine tp_i (y := msg (n + i)) (hm i (by omega)) ?_
    refine g_bst (j := (n + i) % 4) (v := msg (n + i)) hx hb C h 4 rfl (by omega) (by decide) (hmb _) dX1_update_129 (fun H locs h => ?_)
    have h : HS G A s _ _ [oD d [.ref pu, .ref xb, .int (nI ((n + i) % 4 + 1)), .long (lN n), .ref va, .ref ia, .int (xo), .ref wa], aI G va 8 (v), aI G ia 16 (iw), aI G wa 68 (wk), aB G xb 4 (upd xf ((n + i) % 4) (msg (n + i))), aB G b N (t)] := h
    refine lv_goto (tgt := 99) hx hb dX1_update_130 (by decide) ?_
    exact ih (i + 1) v iw wk _ _ _ H locs ls (by omega) (by omega) (by have := hD.push (by omega) rfl; exact this) h (lv_sub hl [1, 2, 3, 4, 0] rfl)
set_option maxHeartbeats 4000000 in
/-- GeneralDigest.update(byte[], int, int): c0 bytes more -/
theorem c_X1_update (l : Launch) (G : GG) (d pu xb va ia wa : Nat) (b N f c0 n sz : Nat) (xbo xo : Int32) (v iw wk xf t msg : Nat → Int32) (hN : N < 2 ^ 30) (hf : f + c0 ≤ N) (hm : ∀ i, i < c0 → t (f + i) = msg (n + i)) (hmb : ∀ i, vp_nar .byte (msg i) = msg i) (hD : DB msg n v iw xf xo xbo) : CtV l G yX1_update cX1_update 6 3 82 0 0 [.ref d, .ref b, .int (nI f), .int (nI c0)] [oD d [.ref pu, .ref xb, .int (xbo), .long (lN n), .ref va, .ref ia, .int (xo), .ref wa], aI G va 8 (v), aI G ia 16 (iw), aI G wa 68 (wk), aB G xb 4 (xf), aB G b N (t)] sz (fun u : S6 => DU msg (n + c0) u) (fun u => dW G d pu xb va ia wa (lN (n + c0)) u ++ [aB G b N t]) := by
  refine entV "GeneralDigest" rfl (by decide +kernel) (Nat.le_of_ble_eq_true rfl) ?_
  intro p e s m below meth c A ls hx hb hr hk hml hin hsz C h hl
  have hl : lv_has ls 6 [(0, .ref d), (1, .ref b), (2, .int (nI (f))), (3, .int (nI (c0)))] := hl
  refine lv_iconst (v := nI (0)) hx hb dX1_update_0 (by decide) ?_
  refine lv_iload_n hx hb dX1_update_1 rfl (lv_at hl 3 rfl) ?_
  refine va_mmax hx hb (by rw [hml]; exact hl.1.symm) C.2.2.2.1 (C.2.2.2.2 _ q142) (C.2.2.2.2 _ q143) (C.2.2.2.2 _ q21) (C.2.2.2.2 _ q144) (Nat.le_of_ble_eq_true rfl) (Nat.le_of_ble_eq_true rfl) (Nat.le_of_ble_eq_true rfl) (Nat.le_of_ble_eq_true rfl) dX1_update_2 ?_
  refine tp_i (y := nI (c0)) (mx0 (by omega)) ?_
  have after : ∀ (i : Nat) (v iw wk xf : Nat → Int32) (xo xbo : Int32) (H : Heap) (locs : List Loc) (ls : Array Slot), i ≤ c0 → (i = c0 ∨ (n + i) % 4 = 0) → DB msg (n + i) v iw xf xo xbo → HS G A s H locs [oD d [.ref pu, .ref xb, .int (xbo), .long (lN n), .ref va, .ref ia, .int (xo), .ref wa], aI G va 8 (v), aI G ia 16 (iw), aI G wa 68 (wk), aB G xb 4 (xf), aB G b N (t)] → lv_has ls 6 [(0, .ref d), (1, .ref b), (2, .int (nI (f))), (3, .int (nI (c0))), (4, .int (nI (i)))] → W p l e (rmc 3 82 0 0) s m [.ref d, .ref b, .int (nI f), .int (nI c0)].toArray below meth c H locs 0 0 (MQ below (va_Qv (fun u : S6 => DU msg (n + c0) u) (WB G A (fun u => dW G d pu xb va ia wa (lN (n + c0)) u ++ [aB G b N t])) A) [.ref d, .ref b, .int (nI f), .int (nI c0)].toArray s 0 0 A) (F0 m 72 ls []) := by
    intro i v iw wk xf xo xbo H locs ls hi h4 hD h hl
    refine lv_iload_n hx hb dX1_update_72 rfl (lv_at hl 3 rfl) ?_
    refine lv_iconst (v := nI (3)) hx hb dX1_update_73 (by decide) ?_
    refine lv_isub hx hb dX1_update_74 ?_
    refine lv_istore (lv' := [(5, .int (nI c0 - nI 3)), (0, .ref d), (1, .ref b), (2, .int (nI (f))), (3, .int (nI (c0))), (4, .int (nI (i)))]) hx hb dX1_update_75 hl (by decide) rfl (fun ls hl => ?_)
    refine lp2_X1_update d pu xb va ia wa b N f c0 n t msg hN hf hm hmb hx hb hml C (fun i v iw wk xf xo xbo H locs ls hi h3 hD h hl => ?_) (c0 - i + 1) i v iw wk xf xo xbo H locs ls hi (by omega) h4 hD h (lv_sub hl [1, 2, 3, 4, 5, 0] rfl)
    refine lp3_X1_update d pu xb va ia wa b N f c0 n t msg hN hf hm hmb hx hb hml C (fun v iw wk xf xo xbo H locs ls hD h hl => ?_) (c0 - i) i v iw wk xf xo xbo H locs ls (by omega) h3 hD h hl
    refine lv_aload_n hx hb dX1_update_133 rfl (lv_at hl 0 rfl) ?_
    refine lv_dup hx hb dX1_update_134 rfl ?_
    refine g_get hx hb C h (ci := 1) in_X2 rfl 0 rfl 3 (by decide) q68 rfl rfl dX1_update_135 ?_
    refine lv_iload_n hx hb dX1_update_138 rfl (lv_at hl 3 rfl) ?_
    refine lv_i2l (v := ((nI (c0))).toInt64) hx hb dX1_update_139 rfl ?_
    refine lv_ladd hx hb dX1_update_140 ?_
    refine tp_l (y := lN (n + c0)) (by rw [nI_l (by omega)]; exact lN_add n c0) ?_
    refine g_put hx hb C h (ci := 1) in_X2 tyX2 tyX2_ok nmX2 rfl 0 rfl 3 (by decide) q68 rfl rfl rfl rfl (Nat.le_of_ble_eq_true rfl) dX1_update_141 (fun H locs h => ?_)
    have h : HS G A s _ _ [oD d [.ref pu, .ref xb, .int (xbo), .long (lN (n + c0)), .ref va, .ref ia, .int (xo), .ref wa], aI G va 8 (v), aI G ia 16 (iw), aI G wa 68 (wk), aB G xb 4 (xf), aB G b N (t)] := h
    exact retV hx hb hr hk (v, iw, wk, xf, xo, xbo) h (hD) dX1_update_144
  refine lv_istore_n (lv' := [(3, .int (nI (c0))), (0, .ref d), (1, .ref b), (2, .int (nI (f)))]) hx hb dX1_update_5 rfl hl (by decide) rfl (fun ls hl => ?_)
  refine lv_iconst (v := nI (0)) hx hb dX1_update_6 (by decide) ?_
  refine lv_istore (lv' := [(4, .int (nI (0))), (3, .int (nI (c0))), (0, .ref d), (1, .ref b), (2, .int (nI (f)))]) hx hb dX1_update_7 hl (by decide) rfl (fun ls hl => ?_)
  refine lv_aload_n hx hb dX1_update_9 rfl (lv_at hl 2 rfl) ?_
  refine g_get hx hb C h (ci := 1) in_X2 rfl 0 rfl 2 (by decide) q67 rfl rfl dX1_update_10 ?_
  refine lv_if_eq (tgt := 72) hx hb dX1_update_13 (by decide) (fun c_1 => ?_) (fun c_1 => ?_)
  · skip
    exact after 0 v iw wk xf xo xbo _ _ ls (Nat.zero_le _) (Or.inr (by have e := (nI_eq (a := n % 4) (b := 0) (by omega) (by decide)).mp (hD.2.1.symm.trans c_1); exact e)) hD h (lv_sub hl [2, 3, 4, 1, 0] rfl)
  · skip
    exact lp1_X1_update d pu xb va ia wa b N f c0 n t msg hN hf hm hmb hx hb hml C after c0 0 v iw wk xf xo xbo _ _ ls (by omega) (fun e => c_1 (hD.2.1.trans (by rw [show n % 4 = 0 from e]; rfl))) hD h (lv_sub hl [2, 3, 4, 1, 0] rfl)
end
section
/-! finish, doFinal, the constructors -/
set_option maxRecDepth 100000
set_option maxHeartbeats 4000000 in
theorem lp_X1_finish {p : Program} {l : Launch} {e : Env} {s : State} {m : MethodId} {args : Array Value} {below : List Frame} {meth : Method} {c : Code} {Q : State → Prop} {G : GG} {A : Nat → Prop} (d pu xb va ia wa : Nat) (n0 : Nat) (msg : Nat → Int32) (k0 : Nat) (hz : ∀ i, k0 ≤ i → msg i = 0) (hx : p.tables.exec = Jvm.exec) (hb : c.code = cX1_finish) (hml : c.maxLocals = 3) (C : CX G A s args m "GeneralDigest")
    (kx : ∀ (n : Nat) (v iw wk xf : Nat → Int32) (xo xbo : Int32) (H : Heap) (locs : List Loc) (ls : Array Slot), n % 4 = 0 → k0 ≤ n → n < k0 + 4 → DB msg n v iw xf xo xbo → HS G A s H locs [oD d [.ref pu, .ref xb, .int (xbo), .long (lN (n)), .ref va, .ref ia, .int (xo), .ref wa], aI G va 8 (v), aI G ia 16 (iw), aI G wa 68 (wk), aB G xb 4 (xf)] → lv_has ls 3 [(0, .ref d), (1, .long (lN (n0 * 8)))] → W p l e (rmc 4 103 0 0) s m args below meth c H locs 0 0 Q (F0 m 28 ls [])) :
    ∀ (r n : Nat) (v iw wk xf : Nat → Int32) (xo xbo : Int32) (H : Heap) (locs : List Loc) (ls : Array Slot), (n + r) % 4 = 0 → r < 4 → k0 ≤ n → n + r < k0 + 4 → DB msg n v iw xf xo xbo → HS G A s H locs [oD d [.ref pu, .ref xb, .int (xbo), .long (lN (n)), .ref va, .ref ia, .int (xo), .ref wa], aI G va 8 (v), aI G ia 16 (iw), aI G wa 68 (wk), aB G xb 4 (xf)] → lv_has ls 3 [(0, .ref d), (1, .long (lN (n0 * 8)))] → W p l e (rmc 4 103 0 0) s m args below meth c H locs 0 0 Q (F0 m 13 ls []) := by
  intro r
  induction r with
  | zero =>
    intro n v iw wk xf xo xbo H locs ls hr h4 hk hk4 hD h hl
    have e0 : n % 4 = 0 := hr
    obtain rfl : xbo = nI (n % 4) := hD.2.1
    refine lv_aload_n hx hb dX1_finish_13 rfl (lv_at hl 0 rfl) ?_
    refine g_get hx hb C h (ci := 1) in_X2 rfl 0 rfl 2 (by decide) q67 rfl rfl dX1_finish_14 ?_
    refine lv_if_eq (tgt := 28) hx hb dX1_finish_17 (by decide) (fun _ => ?_) (fun c_ => absurd (by rw [e0]; rfl) c_)
    exact kx n v iw wk xf xo _ H locs ls e0 hk hk4 hD h hl
  | succ r ih =>
    intro n v iw wk xf xo xbo H locs ls hr h4 hk hk4 hD h hl
    obtain rfl : xbo = nI (n % 4) := hD.2.1
    refine lv_aload_n hx hb dX1_finish_13 rfl (lv_at hl 0 rfl) ?_
    refine g_get hx hb C h (ci := 1) in_X2 rfl 0 rfl 2 (by decide) q67 rfl rfl dX1_finish_14 ?_
    refine lv_if_eq (tgt := 28) hx hb dX1_finish_17 (by decide) (fun c_ => absurd c_ (nI_ne0 (n := n % 4) (by omega) (by omega))) (fun _ => ?_)
    refine lv_aload_n hx hb dX1_finish_20 rfl (lv_at hl 0 rfl) ?_
    refine lv_iconst (v := nI (0)) hx hb dX1_finish_21 (by decide) ?_
    refine kUv (Cn := "SM3Digest") (wr := []) (rest := []) (na := 1) hx hb hml C h (c_X1_update_2 l G d pu xb va ia wa n _ (nI (n % 4)) xo (nI (0)) v iw wk xf msg (by decide +kernel) hD (hz n hk).symm) (owner := "GeneralDigest") (x := ⟨"GeneralDigest", "update", "(B)V"⟩) (lw_app (lw_c5 q216 q357 q358 q194 q16) (lw_meth q196)) rfl (by decide +kernel) rfl ⟨Nat.le_of_ble_eq_true rfl, Nat.le_of_ble_eq_true rfl⟩ 0 rfl rfl rfl [0, 1, 2, 3, 4] (by decide) rfl [] (by decide) rfl (by decide) hl.1 rfl (Nat.le_of_ble_eq_true rfl) ⟨Nat.le_of_ble_eq_true rfl, Nat.le_of_ble_eq_true rfl⟩ dX1_finish_22 (fun u H locs hp h => ?_)
    obtain ⟨v1, iw1, wk1, xf1, xo1, xbo1⟩ := u
    have h : HS G A s _ _ [oD d [.ref pu, .ref xb, .int (xbo1), .long (lN (n + 1)), .ref va, .ref ia, .int (xo1), .ref wa], aI G va 8 (v1), aI G ia 16 (iw1), aI G wa 68 (wk1), aB G xb 4 (xf1)] := h
    refine lv_goto (tgt := 13) hx hb dX1_finish_25 (by decide) ?_
    exact ih (n + 1) v1 iw1 wk1 xf1 xo1 xbo1 H locs ls (by omega) (by omega) (by omega) (by omega) hp h hl
set_option maxHeartbeats 4000000 in
/-- GeneralDigest.finish: the padding, the length, the last block. sq: the words of the padded message; q + 1: its blocks -/
theorem c_X1_finish (l : Launch) (G : GG) (d pu xb va ia wa : Nat) (n q sz : Nat) (xbo xo : Int32) (v iw wk xf msg sq : Nat → Int32) (hn : n ≤ 16384) (hD : DB msg n v iw xf xo xbo) (h128 : msg n = -128) (h0 : ∀ i, n < i → msg i = 0) (hq : q = (n + 8) / 64) (hs : ∀ i, i < 16 * q + 14 → sq i = wdm msg i) (h14 : sq (16 * q + 14) = 0) (h15 : sq (16 * q + 15) = nI (n * 8)) : CtV l G yX1_finish cX1_finish 3 4 103 0 0 [.ref d] [oD d [.ref pu, .ref xb, .int (xbo), .long (lN (n)), .ref va, .ref ia, .int (xo), .ref wa], aI G va 8 (v), aI G ia 16 (iw), aI G wa 68 (wk), aB G xb 4 (xf)] sz (fun u : S6 × Int64 × Unit => v8 u.1.1 = chn sq (q + 1)) (fun u => dW G d pu xb va ia wa u.2.1 u.1) := by
  refine entV "GeneralDigest" rfl (by decide +kernel) (Nat.le_of_ble_eq_true rfl) ?_
  intro p e s m below meth c A ls hx hb hr hk hml hin hsz C h hl
  have hl : lv_has ls 3 [(0, .ref d)] := hl
  refine lv_aload_n hx hb dX1_finish_0 rfl (lv_at hl 0 rfl) ?_
  refine g_get hx hb C h (ci := 1) in_X2 rfl 0 rfl 3 (by decide) q68 rfl rfl dX1_finish_1 ?_
  refine lv_iconst (v := 3) hx hb dX1_finish_4 (by decide) ?_
  refine lv_lshl (v := (lN (n)) <<< (((3 : Int32)).toInt64 &&& 63)) hx hb dX1_finish_5 rfl ?_
  refine tp_l (y := lN (n * 8)) (wb_shl n (k := 3) (by decide)) ?_
  refine lv_lstore_n (lv' := [(1, .long (lN (n * 8))), (0, .ref d)]) hx hb dX1_finish_6 rfl hl (by decide) rfl (fun ls hl => ?_)
  refine lv_aload_n hx hb dX1_finish_7 rfl (lv_at hl 1 rfl) ?_
  refine lv_bipush (v := (-128)) hx hb dX1_finish_8 (by decide) ?_
  refine kUv (Cn := "SM3Digest") (wr := []) (rest := []) (na := 1) hx hb hml C h (c_X1_update_2 l G d pu xb va ia wa n _ xbo xo (-128) v iw wk xf msg (by decide +kernel) hD h128.symm) (owner := "GeneralDigest") (x := ⟨"GeneralDigest", "update", "(B)V"⟩) (lw_app (lw_c5 q216 q357 q358 q194 q16) (lw_meth q196)) rfl (by decide +kernel) rfl ⟨Nat.le_of_ble_eq_true rfl, Nat.le_of_ble_eq_true rfl⟩ 0 rfl rfl rfl [0, 1, 2, 3, 4] (by decide) rfl [] (by decide) rfl (by decide) hl.1 rfl (Nat.le_of_ble_eq_true rfl) ⟨Nat.le_of_ble_eq_true rfl, Nat.le_of_ble_eq_true rfl⟩ dX1_finish_10 (fun u H locs hp h => ?_)
  obtain ⟨v1, iw1, wk1, xf1, xo1, xbo1⟩ := u
  have h : HS G A s _ _ [oD d [.ref pu, .ref xb, .int (xbo1), .long (lN (n + 1)), .ref va, .ref ia, .int (xo1), .ref wa], aI G va 8 (v1), aI G ia 16 (iw1), aI G wa 68 (wk1), aB G xb 4 (xf1)] := h
  refine lp_X1_finish d pu xb va ia wa n msg (n + 1) (fun i hi => h0 i (by omega)) hx hb hml C (fun n2 v iw wk xf xo xbo H locs ls e4 hk1 hk4 hD h hl => ?_) ((4 - (n + 1) % 4) % 4) (n + 1) v1 iw1 wk1 xf1 xo1 xbo1 H locs ls (by omega) (by omega) (Nat.le_refl _) (by omega) hp h (lv_sub hl [1, 0] rfl)
  have hD2 : DW sq (n2 / 4) v iw xo := hD.1.congr (fun i hi => (hs i (by omega)).symm)
  have hsz0 : ∀ i, n2 / 4 ≤ i → i < 16 * q + 14 → sq i = 0 := fun i h1 h2 => by
    rw [hs i h2]
    exact be_zero (fun j hj => h0 _ (by omega))
  refine lv_aload_n hx hb dX1_finish_28 rfl (lv_at hl 0 rfl) ?_
  refine lv_lload_n hx hb dX1_finish_29 rfl (lv_at hl 1 rfl) ?_
  refine kAv (Cn := "SM3Digest") (wr := [aB G xb 4 (xf)]) (rest := []) (na := 1) hx hb hml C h (c_X2_processLength l G d pu xb va ia wa (n2 / 4) q _ xbo xo (lN (n2)) (lN (n * 8)) v iw wk sq hD2 (by omega) hsz0 (h14.trans (hi_zero (by omega)).symm) (h15.trans (lN_i _).symm)) (owner := "GeneralDigest") (x := ⟨"GeneralDigest", "processLength", "(J)V"⟩) (lw_app (lw_c5 q217 q219 q220 q221 q17) (lw_meth q222)) C.2.1.2.1.2.1 (by decide +kernel) rfl ⟨Nat.le_of_ble_eq_true rfl, Nat.le_of_ble_eq_true rfl⟩ 0 rfl rfl rfl [0, 1, 2, 3] (by decide) rfl [4] (by decide) rfl (by decide) hl.1 rfl (Nat.le_of_ble_eq_true rfl) ⟨Nat.le_of_ble_eq_true rfl, Nat.le_of_ble_eq_true rfl⟩ dX1_finish_30 (fun u H locs hp2 h => ?_)
  obtain ⟨v2, iw2, wk2⟩ := u
  have h : HS G A s _ _ [aB G xb 4 (xf), oD d [.ref pu, .ref xb, .int (xbo), .long (lN (n2)), .ref va, .ref ia, .int (nI 16), .ref wa], aI G va 8 (v2), aI G ia 16 (iw2), aI G wa 68 (wk2)] := h
  have h := h.sub (ws' := [oD d [.ref pu, .ref xb, .int (xbo), .long (lN (n2)), .ref va, .ref ia, .int (nI 16), .ref wa], aI G va 8 (v2), aI G ia 16 (iw2), aI G wa 68 (wk2), aB G xb 4 (xf)]) [1, 2, 3, 4, 0] (by decide) rfl
  refine lv_aload_n hx hb dX1_finish_33 rfl (lv_at hl 0 rfl) ?_
  refine kAv (Cn := "SM3Digest") (wr := [aB G xb 4 (xf)]) (rest := []) (na := 0) hx hb hml C h (c_X2_processBlock l G d pu xb va ia wa _ xbo (nI 16) (lN (n2)) v2 iw2 wk2) (owner := "GeneralDigest") (x := ⟨"GeneralDigest", "processBlock", "()V"⟩) (lw_app (lw_c5 q223 q225 q226 q155 q17) (lw_meth q157)) C.2.1.2.1.2.2 (by decide +kernel) rfl ⟨Nat.le_of_ble_eq_true rfl, Nat.le_of_ble_eq_true rfl⟩ 0 rfl rfl rfl [0, 1, 2, 3] (by decide) rfl [4] (by decide) rfl (by decide) hl.1 rfl (Nat.le_of_ble_eq_true rfl) ⟨Nat.le_of_ble_eq_true rfl, Nat.le_of_ble_eq_true rfl⟩ dX1_finish_34 (fun u H locs hp3 h => ?_)
  obtain ⟨v3, wk3⟩ := u
  have h : HS G A s _ _ [aB G xb 4 (xf), oD d [.ref pu, .ref xb, .int (xbo), .long (lN (n2)), .ref va, .ref ia, .int (0), .ref wa], aI G va 8 (v3), aI G ia 16 (iw2), aI G wa 68 (wk3)] := h
  have h := h.sub (ws' := [oD d [.ref pu, .ref xb, .int (xbo), .long (lN (n2)), .ref va, .ref ia, .int (0), .ref wa], aI G va 8 (v3), aI G ia 16 (iw2), aI G wa 68 (wk3), aB G xb 4 (xf)]) [1, 2, 3, 4, 0] (by decide) rfl
  exact retV hx hb hr hk ((v3, iw2, wk3, xf, 0, xbo), lN (n2), ()) h (DW.done hp2.1 hp2.2 hp3) dX1_finish_37
set_option maxHeartbeats 4000000 in
/-- SM3Digest.doFinal: the digest into the first 32 bytes of out; the digest anew -/
theorem c_X2_doFinal (l : Launch) (G : GG) (d pu xb va ia wa : Nat) (o n q sz : Nat) (xbo xo : Int32) (v iw wk xf of msg sq msg2 : Nat → Int32) (hn : n ≤ 16384) (hD : DB msg n v iw xf xo xbo) (h128 : msg n = -128) (h0 : ∀ i, n < i → msg i = 0) (hq : q = (n + 8) / 64) (hs : ∀ i, i < 16 * q + 14 → sq i = wdm msg i) (h14 : sq (16 * q + 14) = 0) (h15 : sq (16 * q + 15) = nI (n * 8)) : CtI l G yX2_doFinal cX2_doFinal 3 .int 5 125 0 0 [.ref d, .ref o, .int (nI 0)] [oD d [.ref pu, .ref xb, .int (xbo), .long (lN (n)), .ref va, .ref ia, .int (xo), .ref wa], aI G va 8 (v), aI G ia 16 (iw), aI G wa 68 (wk), aB G xb 4 (xf), aB G o 64 (of)] sz (fun (r : Int32) (u : S6 × (Nat → Int32)) => r = nI 32 ∧ DU msg2 0 u.1 ∧ v8 u.2 = chn sq (q + 1)) (fun u => dW G d pu xb va ia wa 0 u.1 ++ [aB G o 64 (upk of 0 (obs u.2) 32)]) := by
  refine entI "SM3Digest" rfl (by decide +kernel) (Nat.le_of_ble_eq_true rfl) ?_
  intro p e s m below meth c A ls hx hb hr hk hml hsz C h hl
  have hl : lv_has ls 3 [(0, .ref d), (1, .ref o), (2, .int (nI 0))] := hl
  refine lv_aload_n hx hb dX2_doFinal_0 rfl (lv_at hl 0 rfl) ?_
  refine kUv (Cn := "SM3Digest") (wr := [aB G o 64 (of)]) (rest := []) (na := 0) hx hb hml C h (c_X1_finish l G d pu xb va ia wa n q _ xbo xo v iw wk xf msg sq hn hD h128 h0 hq hs h14 h15) (owner := "GeneralDigest") (x := ⟨"SM3Digest", "finish", "()V"⟩) (lw_app (lw_c5 q210 q211 q213 q214 q16) (lw_meth q215)) rfl (by decide +kernel) rfl ⟨Nat.le_of_ble_eq_true rfl, Nat.le_of_ble_eq_true rfl⟩ 0 rfl rfl rfl [0, 1, 2, 3, 4] (by decide) rfl [5] (by decide) rfl (by decide) hl.1 rfl (Nat.le_of_ble_eq_true rfl) ⟨Nat.le_of_ble_eq_true rfl, Nat.le_of_ble_eq_true rfl⟩ dX2_doFinal_1 (fun u H locs hp h => ?_)
  obtain ⟨⟨v1, iw1, wk1, xf1, xo1, xbo1⟩, bc1, _⟩ := u
  have h : HS G A s _ _ [aB G o 64 (of), oD d [.ref pu, .ref xb, .int (xbo1), .long (bc1), .ref va, .ref ia, .int (xo1), .ref wa], aI G va 8 (v1), aI G ia 16 (iw1), aI G wa 68 (wk1), aB G xb 4 (xf1)] := h
  have h := h.sub (ws' := [oD d [.ref pu, .ref xb, .int (xbo1), .long (bc1), .ref va, .ref ia, .int (xo1), .ref wa], aI G va 8 (v1), aI G ia 16 (iw1), aI G wa 68 (wk1), aB G xb 4 (xf1), aB G o 64 (of)]) [1, 2, 3, 4, 5, 0] (by decide) rfl
  refine lv_aload_n hx hb dX2_doFinal_4 rfl (lv_at hl 0 rfl) ?_
  refine g_get hx hb C h (ci := 1) in_X2 rfl 0 rfl 4 (by decide) q61 rfl rfl dX2_doFinal_5 ?_
  refine lv_aload_n hx hb dX2_doFinal_8 rfl (lv_at hl 1 rfl) ?_
  refine lv_iload_n hx hb dX2_doFinal_9 rfl (lv_at hl 2 rfl) ?_
  refine kSv (wr := [oD d [.ref pu, .ref xb, .int (xbo1), .long (bc1), .ref va, .ref ia, .int (xo1), .ref wa], aI G ia 16 (iw1), aI G wa 68 (wk1), aB G xb 4 (xf1)]) (rest := []) (na := 3) hx hb hml C h (c_X4_intToBigEndian l G va o 64 _ v1 of (by decide) (by decide)) (lw_S q227 q228 q22 q229) (by decide +kernel) rfl ⟨Nat.le_of_ble_eq_true rfl, Nat.le_of_ble_eq_true rfl⟩ [1, 5] (by decide) rfl [0, 2, 3, 4] (by decide) rfl (by decide) hl.1 rfl (Nat.le_of_ble_eq_true rfl) ⟨Nat.le_of_ble_eq_true rfl, Nat.le_of_ble_eq_true rfl⟩ dX2_doFinal_10 (fun u H locs _ h => ?_)
  have h : HS G A s _ _ [oD d [.ref pu, .ref xb, .int (xbo1), .long (bc1), .ref va, .ref ia, .int (xo1), .ref wa], aI G ia 16 (iw1), aI G wa 68 (wk1), aB G xb 4 (xf1), aI G va 8 (v1), aB G o 64 (upk of 0 (obs v1) 32)] := h
  have h := h.sub (ws' := [oD d [.ref pu, .ref xb, .int (xbo1), .long (bc1), .ref va, .ref ia, .int (xo1), .ref wa], aI G va 8 (v1), aI G ia 16 (iw1), aI G wa 68 (wk1), aB G xb 4 (xf1), aB G o 64 (upk of 0 (obs v1) 32)]) [0, 4, 1, 2, 3, 5] (by decide) rfl
  refine lv_aload_n hx hb dX2_doFinal_13 rfl (lv_at hl 0 rfl) ?_
  refine kVv (Cn := "SM3Digest") (wr := [aB G o 64 (upk of 0 (obs v1) 32)]) (rest := []) (na := 0) hx hb hml C h (c_X2_reset l G d pu xb va ia wa _ xbo1 xo1 bc1 v1 iw1 wk1 xf1 msg2) (lw_V q45 q46 q47 q17 q48) (by decide +kernel) rfl ⟨Nat.le_of_ble_eq_true rfl, Nat.le_of_ble_eq_true rfl⟩ 0 rfl rfl rfl [0, 1, 2, 3, 4] (by decide) rfl [5] (by decide) rfl (by decide) hl.1 rfl (Nat.le_of_ble_eq_true rfl) ⟨Nat.le_of_ble_eq_true rfl, Nat.le_of_ble_eq_true rfl⟩ dX2_doFinal_14 (fun u H locs hp2 h => ?_)
  obtain ⟨v2, iw2, wk2, xf2, xo2, xbo2⟩ := u
  have h : HS G A s _ _ [aB G o 64 (upk of 0 (obs v1) 32), oD d [.ref pu, .ref xb, .int (xbo2), .long (0), .ref va, .ref ia, .int (xo2), .ref wa], aI G va 8 (v2), aI G ia 16 (iw2), aI G wa 68 (wk2), aB G xb 4 (xf2)] := h
  have h := h.sub (ws' := [oD d [.ref pu, .ref xb, .int (xbo2), .long (0), .ref va, .ref ia, .int (xo2), .ref wa], aI G va 8 (v2), aI G ia 16 (iw2), aI G wa 68 (wk2), aB G xb 4 (xf2), aB G o 64 (upk of 0 (obs v1) 32)]) [1, 2, 3, 4, 5, 0] (by decide) rfl
  refine lv_bipush (v := nI (32)) hx hb dX2_doFinal_17 (by decide) ?_
  exact retI hx hb hr hk (rfl) ((v2, iw2, wk2, xf2, xo2, xbo2), v1) h (⟨rfl, hp2, hp⟩) dX2_doFinal_19
set_option maxHeartbeats 4000000 in
/-- GeneralDigest(purpose) -/
theorem c_X1_init (l : Launch) (G : GG) (d pu sz : Nat) : CtV l G yX1_init cX1_init 2 1 20 1 4 [.ref d, .ref pu] [oD d [.null, .null, .int (0), .long (0), .null, .null, .int (0), .null]] sz (fun _ : Nat => True) (fun u => [oD d [.ref pu, .ref u, .int 0, .long 0, .null, .null, .int 0, .null], aB G u 4 (fun _ => 0)]) := by
  refine entV "GeneralDigest" rfl (by decide +kernel) (Nat.le_of_ble_eq_true rfl) ?_
  intro p e s m below meth c A ls hx hb hr hk hml hin hsz C h hl
  have hl : lv_has ls 2 [(0, .ref d), (1, .ref pu)] := hl
  refine lv_aload_n hx hb dX1_init_0 rfl (lv_at hl 0 rfl) ?_
  refine W.objInit hx hb C.2.2.2.1 (C.2.2.2.2 _ q44) (C.2.2.2.2 _ q29) (C.2.2.2.2 _ q30) rfl (by rw [hml]; exact hl.1) rfl dX1_init_1 (Nat.le_of_ble_eq_true rfl) (Nat.le_of_ble_eq_true rfl) ?_
  refine W.eq (g2 := F0 m 4 ls []) rfl ?_
  refine lv_aload_n hx hb dX1_init_4 rfl (lv_at hl 0 rfl) ?_
  refine lv_iconst (v := nI (4)) hx hb dX1_init_5 (by decide) ?_
  refine g_newB hx hb C h 4 (by decide) (Nat.le_of_ble_eq_true rfl) (Nat.le_of_ble_eq_true rfl) dX1_init_6 (fun z1 H h => ?_)
  have h : HS G A s _ _ [oD d [.null, .null, .int (0), .long (0), .null, .null, .int (0), .null], aB G z1 4 (fun _ => 0)] := h
  refine g_putF hx hb C h hin (ci := 1) in_X2 tyX2 tyX2_ok nmX2 rfl 0 rfl 1 (by decide) q66 rfl rfl rfl rfl rfl (Nat.le_of_ble_eq_true rfl) dX1_init_8 (fun H locs h => ?_)
  have h : HS G A s _ _ [oD d [.null, .ref z1, .int (0), .long (0), .null, .null, .int (0), .null], aB G z1 4 (fun _ => 0)] := h
  refine lv_aload_n hx hb dX1_init_11 rfl (lv_at hl 0 rfl) ?_
  refine lv_aload_n hx hb dX1_init_12 rfl (lv_at hl 1 rfl) ?_
  refine g_putF hx hb C h hin (ci := 1) in_X2 tyX2 tyX2_ok nmX2 rfl 0 rfl 0 (by decide) q65 rfl rfl rfl rfl rfl (Nat.le_of_ble_eq_true rfl) dX1_init_13 (fun H locs h => ?_)
  have h : HS G A s _ _ [oD d [.ref pu, .ref z1, .int (0), .long (0), .null, .null, .int (0), .null], aB G z1 4 (fun _ => 0)] := h
  refine lv_aload_n hx hb dX1_init_16 rfl (lv_at hl 0 rfl) ?_
  refine lv_iconst (v := 0) hx hb dX1_init_17 (by decide) ?_
  refine g_put hx hb C h (ci := 1) in_X2 tyX2 tyX2_ok nmX2 rfl 0 rfl 2 (by decide) q67 rfl rfl rfl rfl (Nat.le_of_ble_eq_true rfl) dX1_init_18 (fun H locs h => ?_)
  have h : HS G A s _ _ [oD d [.ref pu, .ref z1, .int (0), .long (0), .null, .null, .int (0), .null], aB G z1 4 (fun _ => 0)] := h
  exact retV hx hb hr hk z1 h (trivial) dX1_init_21
set_option maxHeartbeats 4000000 in
/-- SM3Digest(purpose): a digest that has taken nothing -/
theorem c_X2_init_2 (l : Launch) (G : GG) (d pu sz : Nat) (msg : Nat → Int32) : CtV l G yX2_init_2 cX2_init_2 2 2 41 4 96 [.ref d, .ref pu] [oD d [.null, .null, .int (0), .long (0), .null, .null, .int (0), .null]] sz (fun u : S6 × Nat × Nat × Nat × Nat => DU msg 0 u.1) (fun u => dW G d pu u.2.1 u.2.2.1 u.2.2.2.1 u.2.2.2.2 0 u.1) := by
  refine entV "SM3Digest" rfl (by decide +kernel) (Nat.le_of_ble_eq_true rfl) ?_
  intro p e s m below meth c A ls hx hb hr hk hml hin hsz C h hl
  have hl : lv_has ls 2 [(0, .ref d), (1, .ref pu)] := hl
  refine lv_aload_n hx hb dX2_init_2_0 rfl (lv_at hl 0 rfl) ?_
  refine lv_aload_n hx hb dX2_init_2_1 rfl (lv_at hl 1 rfl) ?_
  refine kIv (wr := []) (rest := []) (na := 1) hx hb hml C h (c_X1_init l G d pu _) (lw_meth q43) q16 q41 q42 rfl (by decide +kernel) rfl ⟨Nat.le_of_ble_eq_true rfl, Nat.le_of_ble_eq_true rfl⟩ [0] (by decide) rfl [] (by decide) rfl (by decide) hl.1 rfl (Nat.le_of_ble_eq_true rfl) ⟨Nat.le_of_ble_eq_true rfl, Nat.le_of_ble_eq_true rfl⟩ dX2_init_2_2 (fun xb H locs _ h => ?_)
  have h : HS G A s _ _ [oD d [.ref pu, .ref xb, .int (0), .long (0), .null, .null, .int (0), .null], aB G xb 4 (fun _ => 0)] := h
  refine lv_aload_n hx hb dX2_init_2_5 rfl (lv_at hl 0 rfl) ?_
  refine lv_bipush (v := nI (8)) hx hb dX2_init_2_6 (by decide) ?_
  refine g_newI hx hb C h 8 (by decide) (Nat.le_of_ble_eq_true rfl) (Nat.le_of_ble_eq_true rfl) dX2_init_2_8 (fun z1 H h => ?_)
  have h : HS G A s _ _ [oD d [.ref pu, .ref xb, .int (0), .long (0), .null, .null, .int (0), .null], aB G xb 4 (fun _ => 0), aI G z1 8 (fun _ => 0)] := h
  refine g_put hx hb C h (ci := 1) in_X2 tyX2 tyX2_ok nmX2 rfl 0 rfl 4 (by decide) q61 rfl rfl rfl rfl (Nat.le_of_ble_eq_true rfl) dX2_init_2_10 (fun H locs h => ?_)
  have h : HS G A s _ _ [oD d [.ref pu, .ref xb, .int (0), .long (0), .ref z1, .null, .int (0), .null], aB G xb 4 (fun _ => 0), aI G z1 8 (fun _ => 0)] := h
  refine lv_aload_n hx hb dX2_init_2_13 rfl (lv_at hl 0 rfl) ?_
  refine lv_bipush (v := nI (16)) hx hb dX2_init_2_14 (by decide) ?_
  refine g_newI hx hb C h 16 (by decide) (Nat.le_of_ble_eq_true rfl) (Nat.le_of_ble_eq_true rfl) dX2_init_2_16 (fun z2 H h => ?_)
  have h : HS G A s _ _ [oD d [.ref pu, .ref xb, .int (0), .long (0), .ref z1, .null, .int (0), .null], aB G xb 4 (fun _ => 0), aI G z1 8 (fun _ => 0), aI G z2 16 (fun _ => 0)] := h
  refine g_put hx hb C h (ci := 1) in_X2 tyX2 tyX2_ok nmX2 rfl 0 rfl 5 (by decide) q62 rfl rfl rfl rfl (Nat.le_of_ble_eq_true rfl) dX2_init_2_18 (fun H locs h => ?_)
  have h : HS G A s _ _ [oD d [.ref pu, .ref xb, .int (0), .long (0), .ref z1, .ref z2, .int (0), .null], aB G xb 4 (fun _ => 0), aI G z1 8 (fun _ => 0), aI G z2 16 (fun _ => 0)] := h
  refine lv_aload_n hx hb dX2_init_2_21 rfl (lv_at hl 0 rfl) ?_
  refine lv_bipush (v := nI (68)) hx hb dX2_init_2_22 (by decide) ?_
  refine g_newI hx hb C h 68 (by decide) (Nat.le_of_ble_eq_true rfl) (Nat.le_of_ble_eq_true rfl) dX2_init_2_24 (fun z3 H h => ?_)
  have h : HS G A s _ _ [oD d [.ref pu, .ref xb, .int (0), .long (0), .ref z1, .ref z2, .int (0), .null], aB G xb 4 (fun _ => 0), aI G z1 8 (fun _ => 0), aI G z2 16 (fun _ => 0), aI G z3 68 (fun _ => 0)] := h
  refine g_put hx hb C h (ci := 1) in_X2 tyX2 tyX2_ok nmX2 rfl 0 rfl 7 (by decide) q64 rfl rfl rfl rfl (Nat.le_of_ble_eq_true rfl) dX2_init_2_26 (fun H locs h => ?_)
  have h : HS G A s _ _ [oD d [.ref pu, .ref xb, .int (0), .long (0), .ref z1, .ref z2, .int (0), .ref z3], aB G xb 4 (fun _ => 0), aI G z1 8 (fun _ => 0), aI G z2 16 (fun _ => 0), aI G z3 68 (fun _ => 0)] := h
  refine lv_aload_n hx hb dX2_init_2_29 rfl (lv_at hl 0 rfl) ?_
  refine kVv (Cn := "SM3Digest") (wr := []) (rest := []) (na := 0) hx hb hml C h (c_X2_reset l G d pu xb z1 z2 z3 _ 0 0 0 (fun _ => 0) (fun _ => 0) (fun _ => 0) (fun _ => 0) msg) (lw_V q45 q46 q47 q17 q48) (by decide +kernel) rfl ⟨Nat.le_of_ble_eq_true rfl, Nat.le_of_ble_eq_true rfl⟩ 0 rfl rfl rfl [0, 2, 3, 4, 1] (by decide) rfl [] (by decide) rfl (by decide) hl.1 rfl (Nat.le_of_ble_eq_true rfl) ⟨Nat.le_of_ble_eq_true rfl, Nat.le_of_ble_eq_true rfl⟩ dX2_init_2_30 (fun u H locs hp h => ?_)
  obtain ⟨v1, iw1, wk1, xf1, xo1, xbo1⟩ := u
  have h : HS G A s _ _ [oD d [.ref pu, .ref xb, .int (xbo1), .long (0), .ref z1, .ref z2, .int (xo1), .ref z3], aI G z1 8 (v1), aI G z2 16 (iw1), aI G z3 68 (wk1), aB G xb 4 (xf1)] := h
  exact retV hx hb hr hk ((v1, iw1, wk1, xf1, xo1, xbo1), xb, z1, z2, z3) h (hp) dX2_init_2_33
set_option maxHeartbeats 4000000 in
/-- SM3Digest() -/
theorem c_X2_init (l : Launch) (G : GG) (d sz : Nat) (msg : Nat → Int32) : CtV l G yX2_init cX2_init 1 3 62 4 96 [.ref d] [oD d [.null, .null, .int (0), .long (0), .null, .null, .int (0), .null]] sz (fun u : S6 × Nat × Nat × Nat × Nat => DU msg 0 u.1) (fun u => dW G d G.2.2.2 u.2.1 u.2.2.1 u.2.2.2.1 u.2.2.2.2 0 u.1) := by
  refine entV "SM3Digest" rfl (by decide +kernel) (Nat.le_of_ble_eq_true rfl) ?_
  intro p e s m below meth c A ls hx hb hr hk hml hin hsz C h hl
  have hl : lv_has ls 1 [(0, .ref d)] := hl
  refine lv_aload_n hx hb dX2_init_0 rfl (lv_at hl 0 rfl) ?_
  refine g_any hx hb C h q36 rfl dX2_init_1 ?_
  refine kIv (wr := []) (rest := []) (na := 1) hx hb hml C h (c_X2_init_2 l G d G.2.2.2 _ msg) (lw_meth q40) q17 q38 q39 rfl (by decide +kernel) rfl ⟨Nat.le_of_ble_eq_true rfl, Nat.le_of_ble_eq_true rfl⟩ [0] (by decide) rfl [] (by decide) rfl (by decide) hl.1 rfl (Nat.le_of_ble_eq_true rfl) ⟨Nat.le_of_ble_eq_true rfl, Nat.le_of_ble_eq_true rfl⟩ dX2_init_4 (fun u H locs hp h => ?_)
  obtain ⟨⟨v1, iw1, wk1, xf1, xo1, xbo1⟩, xb, va, ia, wa⟩ := u
  have h : HS G A s _ _ [oD d [.ref (G.2.2.2), .ref xb, .int (xbo1), .long (0), .ref va, .ref ia, .int (xo1), .ref wa], aI G va 8 (v1), aI G ia 16 (iw1), aI G wa 68 (wk1), aB G xb 4 (xf1)] := h
  exact retV hx hb hr hk ((v1, iw1, wk1, xf1, xo1, xbo1), xb, va, ia, wa) h (hp) dX2_init_7
end
section
/-! SmDigestDesk -/
set_option maxRecDepth 100000
theorem put_4 (t : Nat → Int32) (z : Nat) (a b c d : Int32) : ob4 (ob4 (ob4 (ob4 t z a) (z + 4) b) (z + 8) c) (z + 12) d = upk t z (q16b a b c d) 16 := rfl
set_option maxHeartbeats 4000000 in
theorem c_X0_from (l : Launch) (G : GG) (x d ou tx : Nat) (n z sz : Nat) (a1 : Int32) (hz : z ≤ 1024) : CtP l G yX0_from cX0_from 2 .int 0 0 [.ref x, .int (a1)] [oX x [.ref d, .ref ou, .int (nI (n)), .ref tx, .int (nI (z))]] sz (fun r => r = nI (fN a1 % (z + 1))) := by
  have hf := fN_lt a1
  refine entP "SmDigestDesk" rfl (by decide +kernel) (Nat.le_of_ble_eq_true rfl) ?_
  intro p e s m below meth c A ls hx hb hr hk hml hsz C h hl
  have hl : lv_has ls 2 [(0, .ref x), (1, .int (a1))] := hl
  refine lv_iload_n hx hb dX0_from_0 rfl (lv_at hl 1 rfl) ?_
  refine lv_ldc (v := 2147483647) hx hb C.2.2.2.1 (C.2.2.2.2 _ q119) dX0_from_1 ?_
  refine lv_iand hx hb dX0_from_3 ?_
  refine tp_i (y := nI (fN a1)) (fN_and a1) ?_
  refine lv_aload_n hx hb dX0_from_4 rfl (lv_at hl 0 rfl) ?_
  refine g_get hx hb C h (ci := 0) in_X0 rfl 0 rfl 4 (by decide) q91 rfl rfl dX0_from_5 ?_
  refine lv_iconst (v := nI (1)) hx hb dX0_from_8 (by decide) ?_
  refine lv_iadd hx hb dX0_from_9 ?_
  refine tp_i (y := nI (z + 1)) (nI_add (z) (1)) ?_
  refine lv_irem hx hb dX0_from_10 (nI_ne0 (n := z + 1) (by omega) (by omega)) ?_
  refine tp_i (y := nI ((fN a1) % (z + 1))) (pk_rem (a := fN a1) (d := z + 1) (by omega) (by omega) (by omega)) ?_
  exact retP hx hb hr hk (rfl) (rfl) dX0_from_11
set_option maxHeartbeats 4000000 in
theorem c_X0_count (l : Launch) (G : GG) (x d ou tx : Nat) (n z k1 sz : Nat) (a2 : Int32) (hz : z ≤ 1024) (hk1 : k1 ≤ z) : CtP l G yX0_count cX0_count 3 .int 0 0 [.ref x, .int (nI (k1)), .int (a2)] [oX x [.ref d, .ref ou, .int (nI (n)), .ref tx, .int (nI (z))]] sz (fun r => r = nI (fN a2 % (z - k1 + 1))) := by
  have hf := fN_lt a2
  refine entP "SmDigestDesk" rfl (by decide +kernel) (Nat.le_of_ble_eq_true rfl) ?_
  intro p e s m below meth c A ls hx hb hr hk hml hsz C h hl
  have hl : lv_has ls 3 [(0, .ref x), (1, .int (nI (k1))), (2, .int (a2))] := hl
  refine lv_iload_n hx hb dX0_count_0 rfl (lv_at hl 2 rfl) ?_
  refine lv_ldc (v := 2147483647) hx hb C.2.2.2.1 (C.2.2.2.2 _ q119) dX0_count_1 ?_
  refine lv_iand hx hb dX0_count_3 ?_
  refine tp_i (y := nI (fN a2)) (fN_and a2) ?_
  refine lv_aload_n hx hb dX0_count_4 rfl (lv_at hl 0 rfl) ?_
  refine g_get hx hb C h (ci := 0) in_X0 rfl 0 rfl 4 (by decide) q91 rfl rfl dX0_count_5 ?_
  refine lv_iload_n hx hb dX0_count_8 rfl (lv_at hl 1 rfl) ?_
  refine lv_isub hx hb dX0_count_9 ?_
  refine tp_i (y := nI (z - k1)) (pk_sub (a := z) (b := k1) (by omega)) ?_
  refine lv_iconst (v := nI (1)) hx hb dX0_count_10 (by decide) ?_
  refine lv_iadd hx hb dX0_count_11 ?_
  refine tp_i (y := nI (z - k1 + 1)) (nI_add (z - k1) (1)) ?_
  refine lv_irem hx hb dX0_count_12 (nI_ne0 (n := z - k1 + 1) (by omega) (by omega)) ?_
  refine tp_i (y := nI ((fN a2) % (z - k1 + 1))) (pk_rem (a := fN a2) (d := z - k1 + 1) (by omega) (by omega) (by omega)) ?_
  exact retP hx hb hr hk (rfl) (rfl) dX0_count_13
set_option maxHeartbeats 4000000 in
theorem c_X0_out (l : Launch) (G : GG) (x d ou tx : Nat) (n z sz : Nat) (a1 : Int32) (of : Nat → Int32) : CtP l G yX0_out cX0_out 2 .int 0 0 [.ref x, .int (a1)] [oX x [.ref d, .ref ou, .int (nI (n)), .ref tx, .int (nI (z))], aB G ou 64 (of)] sz (fun r => r = (of (fN a1 % 64)) &&& 255) := by
  have hf := fN_lt a1
  refine entP "SmDigestDesk" rfl (by decide +kernel) (Nat.le_of_ble_eq_true rfl) ?_
  intro p e s m below meth c A ls hx hb hr hk hml hsz C h hl
  have hl : lv_has ls 2 [(0, .ref x), (1, .int (a1))] := hl
  refine lv_aload_n hx hb dX0_out_0 rfl (lv_at hl 0 rfl) ?_
  refine g_get hx hb C h (ci := 0) in_X0 rfl 0 rfl 1 (by decide) q88 rfl rfl dX0_out_1 ?_
  refine lv_iload_n hx hb dX0_out_4 rfl (lv_at hl 1 rfl) ?_
  refine lv_ldc (v := 2147483647) hx hb C.2.2.2.1 (C.2.2.2.2 _ q119) dX0_out_5 ?_
  refine lv_iand hx hb dX0_out_7 ?_
  refine tp_i (y := nI (fN a1)) (fN_and a1) ?_
  refine lv_bipush (v := nI (64)) hx hb dX0_out_8 (by decide) ?_
  refine lv_irem hx hb dX0_out_10 (nI_ne0 (n := 64) (by omega) (by omega)) ?_
  refine tp_i (y := nI ((fN a1) % 64)) (pk_rem (a := fN a1) (d := 64) (by omega) (by omega) (by omega)) ?_
  refine g_bld (j := (fN a1) % 64) hx hb C h 1 rfl (by omega) (by decide) dX0_out_11 ?_
  refine lv_sipush (v := 255) hx hb dX0_out_12 (by decide) ?_
  refine lv_iand hx hb dX0_out_15 ?_
  exact retP hx hb hr hk (rfl) (rfl) dX0_out_16
set_option maxHeartbeats 4000000 in
theorem c_X0_word (l : Launch) (G : GG) (x d ou tx : Nat) (n z j sz : Nat) (w : Int32) (t : Nat → Int32) (hj : j + 3 < 1024) : CtV l G yX0_word cX0_word 3 0 0 0 0 [.ref x, .int (nI (j)), .int (w)] [oX x [.ref d, .ref ou, .int (nI (n)), .ref tx, .int (nI (z))], aB G tx 1024 (t)] sz (fun _ : Unit => True) (fun _ => [oX x [.ref d, .ref ou, .int (nI (n)), .ref tx, .int (nI (z))], aB G tx 1024 (ob4 t j w)]) := by
  refine entV "SmDigestDesk" rfl (by decide +kernel) (Nat.le_of_ble_eq_true rfl) ?_
  intro p e s m below meth c A ls hx hb hr hk hml hin hsz C h hl
  have hl : lv_has ls 3 [(0, .ref x), (1, .int (nI (j))), (2, .int (w))] := hl
  refine lv_aload_n hx hb dX0_word_0 rfl (lv_at hl 0 rfl) ?_
  refine g_get hx hb C h (ci := 0) in_X0 rfl 0 rfl 3 (by decide) q90 rfl rfl dX0_word_1 ?_
  refine lv_iload_n hx hb dX0_word_4 rfl (lv_at hl 1 rfl) ?_
  refine lv_iload_n hx hb dX0_word_5 rfl (lv_at hl 2 rfl) ?_
  refine lv_bipush (v := 24) hx hb dX0_word_6 (by decide) ?_
  refine lv_ishr hx hb dX0_word_8 ?_
  refine lv_i2b (v := ((w >>> ((24 : Int32) &&& 31))).toInt8.toInt32) hx hb dX0_word_9 rfl ?_
  refine tp_i (y := ob w 0) (sb24 w) ?_
  refine g_bst (j := j) (v := ob w 0) hx hb C h 1 rfl (by omega) (by decide) (ob_nar _ _) dX0_word_10 (fun H locs h => ?_)
  have h : HS G A s _ _ [oX x [.ref d, .ref ou, .int (nI (n)), .ref tx, .int (nI (z))], aB G tx 1024 (upd t (j) (ob w 0))] := h
  refine lv_aload_n hx hb dX0_word_11 rfl (lv_at hl 0 rfl) ?_
  refine g_get hx hb C h (ci := 0) in_X0 rfl 0 rfl 3 (by decide) q90 rfl rfl dX0_word_12 ?_
  refine lv_iload_n hx hb dX0_word_15 rfl (lv_at hl 1 rfl) ?_
  refine lv_iconst (v := nI (1)) hx hb dX0_word_16 (by decide) ?_
  refine lv_iadd hx hb dX0_word_17 ?_
  refine tp_i (y := nI (j + 1)) (nI_add (j) (1)) ?_
  refine lv_iload_n hx hb dX0_word_18 rfl (lv_at hl 2 rfl) ?_
  refine lv_bipush (v := 16) hx hb dX0_word_19 (by decide) ?_
  refine lv_ishr hx hb dX0_word_21 ?_
  refine lv_i2b (v := ((w >>> ((16 : Int32) &&& 31))).toInt8.toInt32) hx hb dX0_word_22 rfl ?_
  refine tp_i (y := ob w 1) (sb16 w) ?_
  refine g_bst (j := j + 1) (v := ob w 1) hx hb C h 1 rfl (by omega) (by decide) (ob_nar _ _) dX0_word_23 (fun H locs h => ?_)
  have h : HS G A s _ _ [oX x [.ref d, .ref ou, .int (nI (n)), .ref tx, .int (nI (z))], aB G tx 1024 (upd (upd t (j) (ob w 0)) (j + 1) (ob w 1))] := h
  refine lv_aload_n hx hb dX0_word_24 rfl (lv_at hl 0 rfl) ?_
  refine g_get hx hb C h (ci := 0) in_X0 rfl 0 rfl 3 (by decide) q90 rfl rfl dX0_word_25 ?_
  refine lv_iload_n hx hb dX0_word_28 rfl (lv_at hl 1 rfl) ?_
  refine lv_iconst (v := nI (2)) hx hb dX0_word_29 (by decide) ?_
  refine lv_iadd hx hb dX0_word_30 ?_
  refine tp_i (y := nI (j + 2)) (nI_add (j) (2)) ?_
  refine lv_iload_n hx hb dX0_word_31 rfl (lv_at hl 2 rfl) ?_
  refine lv_bipush (v := 8) hx hb dX0_word_32 (by decide) ?_
  refine lv_ishr hx hb dX0_word_34 ?_
  refine lv_i2b (v := ((w >>> ((8 : Int32) &&& 31))).toInt8.toInt32) hx hb dX0_word_35 rfl ?_
  refine tp_i (y := ob w 2) (sb8 w) ?_
  refine g_bst (j := j + 2) (v := ob w 2) hx hb C h 1 rfl (by omega) (by decide) (ob_nar _ _) dX0_word_36 (fun H locs h => ?_)
  have h : HS G A s _ _ [oX x [.ref d, .ref ou, .int (nI (n)), .ref tx, .int (nI (z))], aB G tx 1024 (upd (upd (upd t (j) (ob w 0)) (j + 1) (ob w 1)) (j + 2) (ob w 2))] := h
  refine lv_aload_n hx hb dX0_word_37 rfl (lv_at hl 0 rfl) ?_
  refine g_get hx hb C h (ci := 0) in_X0 rfl 0 rfl 3 (by decide) q90 rfl rfl dX0_word_38 ?_
  refine lv_iload_n hx hb dX0_word_41 rfl (lv_at hl 1 rfl) ?_
  refine lv_iconst (v := nI (3)) hx hb dX0_word_42 (by decide) ?_
  refine lv_iadd hx hb dX0_word_43 ?_
  refine tp_i (y := nI (j + 3)) (nI_add (j) (3)) ?_
  refine lv_iload_n hx hb dX0_word_44 rfl (lv_at hl 2 rfl) ?_
  refine lv_i2b (v := (w).toInt8.toInt32) hx hb dX0_word_45 rfl ?_
  refine tp_i (y := ob w 3) (ob_3 w) ?_
  refine g_bst (j := j + 3) (v := ob w 3) hx hb C h 1 rfl (by omega) (by decide) (ob_nar _ _) dX0_word_46 (fun H locs h => ?_)
  have h : HS G A s _ _ [oX x [.ref d, .ref ou, .int (nI (n)), .ref tx, .int (nI (z))], aB G tx 1024 (upd (upd (upd (upd t (j) (ob w 0)) (j + 1) (ob w 1)) (j + 2) (ob w 2)) (j + 3) (ob w 3))] := h
  exact retV hx hb hr hk () h (trivial) dX0_word_47
set_option maxHeartbeats 4000000 in
theorem c_X0_put (l : Launch) (G : GG) (x d ou tx : Nat) (n z sz : Nat) (a b c_ d_ : Int32) (t : Nat → Int32) (hz : z ≤ 1024) : CtI l G yX0_put cX0_put 5 .boolean 1 22 0 0 [.ref x, .int (a), .int (b), .int (c_), .int (d_)] [oX x [.ref d, .ref ou, .int (nI (n)), .ref tx, .int (nI (z))], aB G tx 1024 (t)] sz (fun r (_ : Unit) => r = putR z) (fun _ => [oX x [.ref d, .ref ou, .int (nI (n)), .ref tx, .int (nI (putZ z))], aB G tx 1024 (putT t z a b c_ d_)]) := by
  refine entI "SmDigestDesk" rfl (by decide +kernel) (Nat.le_of_ble_eq_true rfl) ?_
  intro p e s m below meth c A ls hx hb hr hk hml hsz C h hl
  have hl : lv_has ls 5 [(0, .ref x), (1, .int (a)), (2, .int (b)), (3, .int (c_)), (4, .int (d_))] := hl
  refine lv_aload_n hx hb dX0_put_0 rfl (lv_at hl 0 rfl) ?_
  refine g_get hx hb C h (ci := 0) in_X0 rfl 0 rfl 4 (by decide) q91 rfl rfl dX0_put_1 ?_
  refine lv_aload_n hx hb dX0_put_4 rfl (lv_at hl 0 rfl) ?_
  refine g_get hx hb C h (ci := 0) in_X0 rfl 0 rfl 3 (by decide) q90 rfl rfl dX0_put_5 ?_
  refine g_blen hx hb C h 1 rfl dX0_put_8 ?_
  refine lv_bipush (v := nI (16)) hx hb dX0_put_9 (by decide) ?_
  refine lv_isub hx hb dX0_put_11 ?_
  refine tp_i (y := nI (1024 - 16)) (pk_sub (a := 1024) (b := 16) (by omega)) ?_
  refine lv_icmp_le (tgt := 17) hx hb dX0_put_12 (by decide) (fun c_1 => ?_) (fun c_1 => ?_)
  · skip
    have h8 : z ≤ 1008 := (nI_leI (a := z) (b := 1024 - 16) (by omega) (by decide)).mp c_1
    refine lv_aload_n hx hb dX0_put_17 rfl (lv_at hl 0 rfl) ?_
    refine lv_aload_n hx hb dX0_put_18 rfl (lv_at hl 0 rfl) ?_
    refine g_get hx hb C h (ci := 0) in_X0 rfl 0 rfl 4 (by decide) q91 rfl rfl dX0_put_19 ?_
    refine lv_iload_n hx hb dX0_put_22 rfl (lv_at hl 1 rfl) ?_
    refine kVv (Cn := "SmDigestDesk") (wr := []) (rest := []) (na := 2) hx hb hml C h (c_X0_word l G x d ou tx n z (z) _ a t (by omega)) (lw_V q107 q109 qs0 q15 q110) (by decide +kernel) rfl ⟨Nat.le_of_ble_eq_true rfl, Nat.le_of_ble_eq_true rfl⟩ 0 rfl rfl rfl [0, 1] (by decide) rfl [] (by decide) rfl (by decide) hl.1 rfl (Nat.le_of_ble_eq_true rfl) ⟨Nat.le_of_ble_eq_true rfl, Nat.le_of_ble_eq_true rfl⟩ dX0_put_23 (fun u H locs _ h => ?_)
    have h : HS G A s _ _ [oX x [.ref d, .ref ou, .int (nI (n)), .ref tx, .int (nI (z))], aB G tx 1024 (ob4 t (z) a)] := h
    refine lv_aload_n hx hb dX0_put_26 rfl (lv_at hl 0 rfl) ?_
    refine lv_aload_n hx hb dX0_put_27 rfl (lv_at hl 0 rfl) ?_
    refine g_get hx hb C h (ci := 0) in_X0 rfl 0 rfl 4 (by decide) q91 rfl rfl dX0_put_28 ?_
    refine lv_iconst (v := nI (4)) hx hb dX0_put_31 (by decide) ?_
    refine lv_iadd hx hb dX0_put_32 ?_
    refine tp_i (y := nI (z + 4)) (nI_add (z) (4)) ?_
    refine lv_iload_n hx hb dX0_put_33 rfl (lv_at hl 2 rfl) ?_
    refine kVv (Cn := "SmDigestDesk") (wr := []) (rest := []) (na := 2) hx hb hml C h (c_X0_word l G x d ou tx n z (z + 4) _ b (ob4 t (z) a) (by omega)) (lw_V q107 q109 qs0 q15 q110) (by decide +kernel) rfl ⟨Nat.le_of_ble_eq_true rfl, Nat.le_of_ble_eq_true rfl⟩ 0 rfl rfl rfl [0, 1] (by decide) rfl [] (by decide) rfl (by decide) hl.1 rfl (Nat.le_of_ble_eq_true rfl) ⟨Nat.le_of_ble_eq_true rfl, Nat.le_of_ble_eq_true rfl⟩ dX0_put_34 (fun u H locs _ h => ?_)
    have h : HS G A s _ _ [oX x [.ref d, .ref ou, .int (nI (n)), .ref tx, .int (nI (z))], aB G tx 1024 (ob4 (ob4 t (z) a) (z + 4) b)] := h
    refine lv_aload_n hx hb dX0_put_37 rfl (lv_at hl 0 rfl) ?_
    refine lv_aload_n hx hb dX0_put_38 rfl (lv_at hl 0 rfl) ?_
    refine g_get hx hb C h (ci := 0) in_X0 rfl 0 rfl 4 (by decide) q91 rfl rfl dX0_put_39 ?_
    refine lv_bipush (v := nI (8)) hx hb dX0_put_42 (by decide) ?_
    refine lv_iadd hx hb dX0_put_44 ?_
    refine tp_i (y := nI (z + 8)) (nI_add (z) (8)) ?_
    refine lv_iload_n hx hb dX0_put_45 rfl (lv_at hl 3 rfl) ?_
    refine kVv (Cn := "SmDigestDesk") (wr := []) (rest := []) (na := 2) hx hb hml C h (c_X0_word l G x d ou tx n z (z + 8) _ c_ (ob4 (ob4 t (z) a) (z + 4) b) (by omega)) (lw_V q107 q109 qs0 q15 q110) (by decide +kernel) rfl ⟨Nat.le_of_ble_eq_true rfl, Nat.le_of_ble_eq_true rfl⟩ 0 rfl rfl rfl [0, 1] (by decide) rfl [] (by decide) rfl (by decide) hl.1 rfl (Nat.le_of_ble_eq_true rfl) ⟨Nat.le_of_ble_eq_true rfl, Nat.le_of_ble_eq_true rfl⟩ dX0_put_46 (fun u H locs _ h => ?_)
    have h : HS G A s _ _ [oX x [.ref d, .ref ou, .int (nI (n)), .ref tx, .int (nI (z))], aB G tx 1024 (ob4 (ob4 (ob4 t (z) a) (z + 4) b) (z + 8) c_)] := h
    refine lv_aload_n hx hb dX0_put_49 rfl (lv_at hl 0 rfl) ?_
    refine lv_aload_n hx hb dX0_put_50 rfl (lv_at hl 0 rfl) ?_
    refine g_get hx hb C h (ci := 0) in_X0 rfl 0 rfl 4 (by decide) q91 rfl rfl dX0_put_51 ?_
    refine lv_bipush (v := nI (12)) hx hb dX0_put_54 (by decide) ?_
    refine lv_iadd hx hb dX0_put_56 ?_
    refine tp_i (y := nI (z + 12)) (nI_add (z) (12)) ?_
    refine lv_iload hx hb dX0_put_57 (lv_at hl 4 rfl) ?_
    refine kVv (Cn := "SmDigestDesk") (wr := []) (rest := []) (na := 2) hx hb hml C h (c_X0_word l G x d ou tx n z (z + 12) _ d_ (ob4 (ob4 (ob4 t (z) a) (z + 4) b) (z + 8) c_) (by omega)) (lw_V q107 q109 qs0 q15 q110) (by decide +kernel) rfl ⟨Nat.le_of_ble_eq_true rfl, Nat.le_of_ble_eq_true rfl⟩ 0 rfl rfl rfl [0, 1] (by decide) rfl [] (by decide) rfl (by decide) hl.1 rfl (Nat.le_of_ble_eq_true rfl) ⟨Nat.le_of_ble_eq_true rfl, Nat.le_of_ble_eq_true rfl⟩ dX0_put_59 (fun u H locs _ h => ?_)
    have h : HS G A s _ _ [oX x [.ref d, .ref ou, .int (nI (n)), .ref tx, .int (nI (z))], aB G tx 1024 (ob4 (ob4 (ob4 (ob4 t (z) a) (z + 4) b) (z + 8) c_) (z + 12) d_)] := h
    refine lv_aload_n hx hb dX0_put_62 rfl (lv_at hl 0 rfl) ?_
    refine lv_dup hx hb dX0_put_63 rfl ?_
    refine g_get hx hb C h (ci := 0) in_X0 rfl 0 rfl 4 (by decide) q91 rfl rfl dX0_put_64 ?_
    refine lv_bipush (v := nI (16)) hx hb dX0_put_67 (by decide) ?_
    refine lv_iadd hx hb dX0_put_69 ?_
    refine tp_i (y := nI (z + 16)) (nI_add (z) (16)) ?_
    refine g_put hx hb C h (ci := 0) in_X0 tyX0 tyX0_ok nmX0 rfl 0 rfl 4 (by decide) q91 rfl rfl rfl rfl (Nat.le_of_ble_eq_true rfl) dX0_put_70 (fun H locs h => ?_)
    have h : HS G A s _ _ [oX x [.ref d, .ref ou, .int (nI (n)), .ref tx, .int (nI (z + 16))], aB G tx 1024 (ob4 (ob4 (ob4 (ob4 t (z) a) (z + 4) b) (z + 8) c_) (z + 12) d_)] := h
    refine lv_iconst (v := 1) hx hb dX0_put_73 (by decide) ?_
    have e1 : putT t z a b c_ d_ = ob4 (ob4 (ob4 (ob4 t (z) a) (z + 4) b) (z + 8) c_) (z + 12) d_ := if_pos h8
    have e2 : putZ z = z + 16 := if_pos h8
    have h := h.eq [oX x [.ref d, .ref ou, .int (nI (n)), .ref tx, .int (nI (putZ z))], aB G tx 1024 (putT t z a b c_ d_)] (by rw [e1, e2])
    exact retI hx hb hr hk (rfl) () h ((if_pos h8).symm) dX0_put_74
  · skip
    have h8 : ¬ z ≤ 1008 := fun q => c_1 ((nI_leI (a := z) (b := 1024 - 16) (by omega) (by decide)).mpr q)
    refine lv_iconst (v := 0) hx hb dX0_put_15 (by decide) ?_
    have e1 : putT t z a b c_ d_ = t := if_neg h8
    have e2 : putZ z = z := if_neg h8
    have h := h.eq [oX x [.ref d, .ref ou, .int (nI (n)), .ref tx, .int (nI (putZ z))], aB G tx 1024 (putT t z a b c_ d_)] (by rw [e1, e2])
    exact retI hx hb hr hk (rfl) () h ((if_neg h8).symm) dX0_put_16
set_option maxHeartbeats 4000000 in
theorem c_X0_trim (l : Launch) (G : GG) (x d ou tx : Nat) (n z sz : Nat) (a1 : Int32) (hz : z ≤ 1024) : CtV l G yX0_trim cX0_trim 2 1 21 0 0 [.ref x, .int (a1)] [oX x [.ref d, .ref ou, .int (nI (n)), .ref tx, .int (nI (z))]] sz (fun _ : Unit => True) (fun _ => [oX x [.ref d, .ref ou, .int (nI (n)), .ref tx, .int (nI (fN a1 % (z + 1)))]]) := by
  refine entV "SmDigestDesk" rfl (by decide +kernel) (Nat.le_of_ble_eq_true rfl) ?_
  intro p e s m below meth c A ls hx hb hr hk hml hin hsz C h hl
  have hl : lv_has ls 2 [(0, .ref x), (1, .int (a1))] := hl
  refine lv_aload_n hx hb dX0_trim_0 rfl (lv_at hl 0 rfl) ?_
  refine lv_aload_n hx hb dX0_trim_1 rfl (lv_at hl 0 rfl) ?_
  refine lv_iload_n hx hb dX0_trim_2 rfl (lv_at hl 1 rfl) ?_
  refine kVp (Cn := "SmDigestDesk") (rest := [.ref x]) (na := 1) hx hb hml C h (c_X0_from l G x d ou tx n z _ a1 hz) (lw_V q115 q117 qs1 q15 q118) (by decide +kernel) rfl ⟨Nat.le_of_ble_eq_true rfl, Nat.le_of_ble_eq_true rfl⟩ 0 rfl rfl rfl [0] (by decide) rfl hl.1 rfl (Nat.le_of_ble_eq_true rfl) ⟨Nat.le_of_ble_eq_true rfl, Nat.le_of_ble_eq_true rfl⟩ dX0_trim_3 (fun r_6 hp => ?_)
  obtain rfl : r_6 = nI (fN a1 % (z + 1)) := hp
  refine g_put hx hb C h (ci := 0) in_X0 tyX0 tyX0_ok nmX0 rfl 0 rfl 4 (by decide) q91 rfl rfl rfl rfl (Nat.le_of_ble_eq_true rfl) dX0_trim_6 (fun H locs h => ?_)
  have h : HS G A s _ _ [oX x [.ref d, .ref ou, .int (nI (n)), .ref tx, .int (nI (fN a1 % (z + 1)))]] := h
  exact retV hx hb hr hk () h (trivial) dX0_trim_9
set_option maxHeartbeats 4000000 in
theorem c_X0_begin (l : Launch) (G : GG) (x d ou tx : Nat) (n z sz : Nat) (a1 : Int32) (msg : Nat → Int32) : CtV l G yX0_begin cX0_begin 2 4 82 5 104 [.ref x, .int (a1)] [oX x [.ref d, .ref ou, .int (nI (n)), .ref tx, .int (nI (z))]] sz (fun u : S6 × Nat × Nat × Nat × Nat × Nat => DU msg 0 u.1) (fun u => oX x [.ref u.2.1, .ref ou, .int (nI (0)), .ref tx, .int (nI (z))] :: dW G u.2.1 G.2.2.2 u.2.2.1 u.2.2.2.1 u.2.2.2.2.1 u.2.2.2.2.2 0 u.1) := by
  refine entV "SmDigestDesk" rfl (by decide +kernel) (Nat.le_of_ble_eq_true rfl) ?_
  intro p e s m below meth c A ls hx hb hr hk hml hin hsz C h hl
  have hl : lv_has ls 2 [(0, .ref x), (1, .int (a1))] := hl
  refine lv_aload_n hx hb dX0_begin_0 rfl (lv_at hl 0 rfl) ?_
  refine g_new hx hb C h (ci := 1) (fs := [.null, .null, .int 0, .long 0, .null, .null, .int 0, .null]) in_X2 tyX2 tyX2_ok rfl q31 q32 q17 (fun j hj => by rcases j with _ | _ | _ | _ | _ | _ | _ | _ | j <;> first | rfl | exact absurd hj (by omega)) (Nat.le_of_ble_eq_true rfl) (Nat.le_of_ble_eq_true rfl) dX0_begin_1 (fun d2 H h => ?_)
  have h : HS G A s _ _ [oX x [.ref d, .ref ou, .int (nI (n)), .ref tx, .int (nI (z))], oD d2 [.null, .null, .int (0), .long (0), .null, .null, .int (0), .null]] := h
  refine lv_dup hx hb dX0_begin_4 rfl ?_
  refine kIv (wr := [oX x [.ref d, .ref ou, .int (nI (n)), .ref tx, .int (nI (z))]]) (rest := [.ref d2, .ref x]) (na := 0) hx hb hml C h (c_X2_init l G d2 _ msg) (lw_meth q35) q17 q33 q34 rfl (by decide +kernel) rfl ⟨Nat.le_of_ble_eq_true rfl, Nat.le_of_ble_eq_true rfl⟩ [1] (by decide) rfl [0] (by decide) rfl (by decide) hl.1 rfl (Nat.le_of_ble_eq_true rfl) ⟨Nat.le_of_ble_eq_true rfl, Nat.le_of_ble_eq_true rfl⟩ dX0_begin_5 (fun u H locs hp h => ?_)
  obtain ⟨⟨v1, iw1, wk1, xf1, xo1, xbo1⟩, xb, va, ia, wa⟩ := u
  have h : HS G A s _ _ [oX x [.ref d, .ref ou, .int (nI (n)), .ref tx, .int (nI (z))], oD d2 [.ref (G.2.2.2), .ref xb, .int (xbo1), .long (0), .ref va, .ref ia, .int (xo1), .ref wa], aI G va 8 (v1), aI G ia 16 (iw1), aI G wa 68 (wk1), aB G xb 4 (xf1)] := h
  refine g_put hx hb C h (ci := 0) in_X0 tyX0 tyX0_ok nmX0 rfl 0 rfl 0 (by decide) q87 rfl rfl rfl rfl (Nat.le_of_ble_eq_true rfl) dX0_begin_8 (fun H locs h => ?_)
  have h : HS G A s _ _ [oX x [.ref d2, .ref ou, .int (nI (n)), .ref tx, .int (nI (z))], oD d2 [.ref (G.2.2.2), .ref xb, .int (xbo1), .long (0), .ref va, .ref ia, .int (xo1), .ref wa], aI G va 8 (v1), aI G ia 16 (iw1), aI G wa 68 (wk1), aB G xb 4 (xf1)] := h
  refine lv_aload_n hx hb dX0_begin_11 rfl (lv_at hl 0 rfl) ?_
  refine lv_iconst (v := 0) hx hb dX0_begin_12 (by decide) ?_
  refine g_put hx hb C h (ci := 0) in_X0 tyX0 tyX0_ok nmX0 rfl 0 rfl 2 (by decide) q89 rfl rfl rfl rfl (Nat.le_of_ble_eq_true rfl) dX0_begin_13 (fun H locs h => ?_)
  have h : HS G A s _ _ [oX x [.ref d2, .ref ou, .int (0), .ref tx, .int (nI (z))], oD d2 [.ref (G.2.2.2), .ref xb, .int (xbo1), .long (0), .ref va, .ref ia, .int (xo1), .ref wa], aI G va 8 (v1), aI G ia 16 (iw1), aI G wa 68 (wk1), aB G xb 4 (xf1)] := h
  exact retV hx hb hr hk ((v1, iw1, wk1, xf1, xo1, xbo1), d2, xb, va, ia, wa) h (hp) dX0_begin_16
set_option maxHeartbeats 4000000 in
theorem c_X0_init (l : Launch) (G : GG) (x sz : Nat) (msg : Nat → Int32) : CtV l G yX0_init cX0_init 1 4 82 7 1192 [.ref x] [oX x [.null, .null, .int (0), .null, .int (0)]] sz (fun u : S6 × Nat × Nat × Nat × Nat × Nat × Nat × Nat => DU msg 0 u.1) (fun u => oX x [.ref u.2.1, .ref u.2.2.2.2.2.2.1, .int (0), .ref u.2.2.2.2.2.2.2, .int (0)] :: dW G u.2.1 G.2.2.2 u.2.2.1 u.2.2.2.1 u.2.2.2.2.1 u.2.2.2.2.2.1 0 u.1 ++ [aB G u.2.2.2.2.2.2.1 64 (fun _ => 0), aB G u.2.2.2.2.2.2.2 1024 (fun _ => 0)]) := by
  refine entV "SmDigestDesk" rfl (by decide +kernel) (Nat.le_of_ble_eq_true rfl) ?_
  intro p e s m below meth c A ls hx hb hr hk hml hin hsz C h hl
  have hl : lv_has ls 1 [(0, .ref x)] := hl
  refine lv_aload_n hx hb dX0_init_0 rfl (lv_at hl 0 rfl) ?_
  refine W.objInit hx hb C.2.2.2.1 (C.2.2.2.2 _ q28) (C.2.2.2.2 _ q29) (C.2.2.2.2 _ q30) rfl (by rw [hml]; exact hl.1) rfl dX0_init_1 (Nat.le_of_ble_eq_true rfl) (Nat.le_of_ble_eq_true rfl) ?_
  refine W.eq (g2 := F0 m 4 ls []) rfl ?_
  refine lv_aload_n hx hb dX0_init_4 rfl (lv_at hl 0 rfl) ?_
  refine g_new hx hb C h (ci := 1) (fs := [.null, .null, .int 0, .long 0, .null, .null, .int 0, .null]) in_X2 tyX2 tyX2_ok rfl q31 q32 q17 (fun j hj => by rcases j with _ | _ | _ | _ | _ | _ | _ | _ | j <;> first | rfl | exact absurd hj (by omega)) (Nat.le_of_ble_eq_true rfl) (Nat.le_of_ble_eq_true rfl) dX0_init_5 (fun d2 H h => ?_)
  have h : HS G A s _ _ [oX x [.null, .null, .int (0), .null, .int (0)], oD d2 [.null, .null, .int (0), .long (0), .null, .null, .int (0), .null]] := h
  refine lv_dup hx hb dX0_init_8 rfl ?_
  refine kIv (wr := [oX x [.null, .null, .int (0), .null, .int (0)]]) (rest := [.ref d2, .ref x]) (na := 0) hx hb hml C h (c_X2_init l G d2 _ msg) (lw_meth q35) q17 q33 q34 rfl (by decide +kernel) rfl ⟨Nat.le_of_ble_eq_true rfl, Nat.le_of_ble_eq_true rfl⟩ [1] (by decide) rfl [0] (by decide) rfl (by decide) hl.1 rfl (Nat.le_of_ble_eq_true rfl) ⟨Nat.le_of_ble_eq_true rfl, Nat.le_of_ble_eq_true rfl⟩ dX0_init_9 (fun u H locs hp h => ?_)
  obtain ⟨⟨v1, iw1, wk1, xf1, xo1, xbo1⟩, xb, va, ia, wa⟩ := u
  have h : HS G A s _ _ [oX x [.null, .null, .int (0), .null, .int (0)], oD d2 [.ref (G.2.2.2), .ref xb, .int (xbo1), .long (0), .ref va, .ref ia, .int (xo1), .ref wa], aI G va 8 (v1), aI G ia 16 (iw1), aI G wa 68 (wk1), aB G xb 4 (xf1)] := h
  refine g_put hx hb C h (ci := 0) in_X0 tyX0 tyX0_ok nmX0 rfl 0 rfl 0 (by decide) q87 rfl rfl rfl rfl (Nat.le_of_ble_eq_true rfl) dX0_init_12 (fun H locs h => ?_)
  have h : HS G A s _ _ [oX x [.ref d2, .null, .int (0), .null, .int (0)], oD d2 [.ref (G.2.2.2), .ref xb, .int (xbo1), .long (0), .ref va, .ref ia, .int (xo1), .ref wa], aI G va 8 (v1), aI G ia 16 (iw1), aI G wa 68 (wk1), aB G xb 4 (xf1)] := h
  refine lv_aload_n hx hb dX0_init_15 rfl (lv_at hl 0 rfl) ?_
  refine lv_bipush (v := nI (64)) hx hb dX0_init_16 (by decide) ?_
  refine g_newB hx hb C h 64 (by decide) (Nat.le_of_ble_eq_true rfl) (Nat.le_of_ble_eq_true rfl) dX0_init_18 (fun z1 H h => ?_)
  have h : HS G A s _ _ [oX x [.ref d2, .null, .int (0), .null, .int (0)], oD d2 [.ref (G.2.2.2), .ref xb, .int (xbo1), .long (0), .ref va, .ref ia, .int (xo1), .ref wa], aI G va 8 (v1), aI G ia 16 (iw1), aI G wa 68 (wk1), aB G xb 4 (xf1), aB G z1 64 (fun _ => 0)] := h
  refine g_putF hx hb C h hin (ci := 0) in_X0 tyX0 tyX0_ok nmX0 rfl 0 rfl 1 (by decide) q88 rfl rfl rfl rfl rfl (Nat.le_of_ble_eq_true rfl) dX0_init_20 (fun H locs h => ?_)
  have h : HS G A s _ _ [oX x [.ref d2, .ref z1, .int (0), .null, .int (0)], oD d2 [.ref (G.2.2.2), .ref xb, .int (xbo1), .long (0), .ref va, .ref ia, .int (xo1), .ref wa], aI G va 8 (v1), aI G ia 16 (iw1), aI G wa 68 (wk1), aB G xb 4 (xf1), aB G z1 64 (fun _ => 0)] := h
  refine lv_aload_n hx hb dX0_init_23 rfl (lv_at hl 0 rfl) ?_
  refine lv_sipush (v := nI (1024)) hx hb dX0_init_24 (by decide) ?_
  refine g_newB hx hb C h 1024 (by decide) (Nat.le_of_ble_eq_true rfl) (Nat.le_of_ble_eq_true rfl) dX0_init_27 (fun z2 H h => ?_)
  have h : HS G A s _ _ [oX x [.ref d2, .ref z1, .int (0), .null, .int (0)], oD d2 [.ref (G.2.2.2), .ref xb, .int (xbo1), .long (0), .ref va, .ref ia, .int (xo1), .ref wa], aI G va 8 (v1), aI G ia 16 (iw1), aI G wa 68 (wk1), aB G xb 4 (xf1), aB G z1 64 (fun _ => 0), aB G z2 1024 (fun _ => 0)] := h
  refine g_putF hx hb C h hin (ci := 0) in_X0 tyX0 tyX0_ok nmX0 rfl 0 rfl 3 (by decide) q90 rfl rfl rfl rfl rfl (Nat.le_of_ble_eq_true rfl) dX0_init_29 (fun H locs h => ?_)
  have h : HS G A s _ _ [oX x [.ref d2, .ref z1, .int (0), .ref z2, .int (0)], oD d2 [.ref (G.2.2.2), .ref xb, .int (xbo1), .long (0), .ref va, .ref ia, .int (xo1), .ref wa], aI G va 8 (v1), aI G ia 16 (iw1), aI G wa 68 (wk1), aB G xb 4 (xf1), aB G z1 64 (fun _ => 0), aB G z2 1024 (fun _ => 0)] := h
  exact retV hx hb hr hk ((v1, iw1, wk1, xf1, xo1, xbo1), d2, xb, va, ia, wa, z1, z2) h (hp) dX0_init_32
set_option maxHeartbeats 4000000 in
theorem c_X0_feed (l : Launch) (G : GG) (x d ou tx pu xb va ia wa : Nat) (n z k1 k2 sz : Nat) (a1 a2 xbo xo : Int32) (v iw wk xf t msg : Nat → Int32) (hz : z ≤ 1024) (hn : n ≤ 16384) (hk1 : k1 = fN a1 % (z + 1)) (hk2 : k2 = fN a2 % (z - k1 + 1)) (hm : ∀ i, i < k2 → n + k2 ≤ 16384 → t (k1 + i) = msg (n + i)) (hmb : Bt msg) (hD : DB msg n v iw xf xo xbo) : CtI l G yX0_feed cX0_feed 5 .boolean 4 107 0 0 [.ref x, .int (a1), .int (a2)] [oX x [.ref d, .ref ou, .int (nI (n)), .ref tx, .int (nI (z))], oD d [.ref pu, .ref xb, .int (xbo), .long (lN (n)), .ref va, .ref ia, .int (xo), .ref wa], aI G va 8 (v), aI G ia 16 (iw), aI G wa 68 (wk), aB G xb 4 (xf), aB G tx 1024 (t)] sz (fun r (u : S6) => r = fedR n k2 ∧ DU msg (fedN n k2) u) (fun u => oX x [.ref d, .ref ou, .int (nI (fedN n k2)), .ref tx, .int (nI (z))] :: dW G d pu xb va ia wa (lN (fedN n k2)) u ++ [aB G tx 1024 t]) := by
  have h1z : k1 ≤ z := by
    have := Nat.mod_lt (fN a1) (show 0 < z + 1 by omega)
    omega
  have h2z : k1 + k2 ≤ z := by
    have := Nat.mod_lt (fN a2) (show 0 < z - k1 + 1 by omega)
    omega
  refine entI "SmDigestDesk" rfl (by decide +kernel) (Nat.le_of_ble_eq_true rfl) ?_
  intro p e s m below meth c A ls hx hb hr hk hml hsz C h hl
  have hl : lv_has ls 5 [(0, .ref x), (1, .int (a1)), (2, .int (a2))] := hl
  refine lv_aload_n hx hb dX0_feed_0 rfl (lv_at hl 0 rfl) ?_
  refine lv_iload_n hx hb dX0_feed_1 rfl (lv_at hl 1 rfl) ?_
  refine kVp (Cn := "SmDigestDesk") (rest := []) (na := 1) hx hb hml C h (c_X0_from l G x d ou tx n z _ a1 hz) (lw_V q115 q117 qs1 q15 q118) (by decide +kernel) rfl ⟨Nat.le_of_ble_eq_true rfl, Nat.le_of_ble_eq_true rfl⟩ 0 rfl rfl rfl [0] (by decide) rfl hl.1 rfl (Nat.le_of_ble_eq_true rfl) ⟨Nat.le_of_ble_eq_true rfl, Nat.le_of_ble_eq_true rfl⟩ dX0_feed_2 (fun r_5 hp => ?_)
  obtain rfl : r_5 = nI (k1) := by rw [hk1]; exact hp
  refine lv_istore_n (lv' := [(3, .int (nI (k1))), (0, .ref x), (1, .int (a1)), (2, .int (a2))]) hx hb dX0_feed_5 rfl hl (by decide) rfl (fun ls hl => ?_)
  refine lv_aload_n hx hb dX0_feed_6 rfl (lv_at hl 1 rfl) ?_
  refine lv_iload_n hx hb dX0_feed_7 rfl (lv_at hl 0 rfl) ?_
  refine lv_iload_n hx hb dX0_feed_8 rfl (lv_at hl 3 rfl) ?_
  refine kVp (Cn := "SmDigestDesk") (rest := []) (na := 2) hx hb hml C h (c_X0_count l G x d ou tx n z k1 _ a2 hz h1z) (lw_V q128 q130 qs2 q15 q131) (by decide +kernel) rfl ⟨Nat.le_of_ble_eq_true rfl, Nat.le_of_ble_eq_true rfl⟩ 0 rfl rfl rfl [0] (by decide) rfl hl.1 rfl (Nat.le_of_ble_eq_true rfl) ⟨Nat.le_of_ble_eq_true rfl, Nat.le_of_ble_eq_true rfl⟩ dX0_feed_9 (fun r_12 hp => ?_)
  obtain rfl : r_12 = nI (k2) := by rw [hk2]; exact hp
  refine lv_istore (lv' := [(4, .int (nI (k2))), (3, .int (nI (k1))), (0, .ref x), (1, .int (a1)), (2, .int (a2))]) hx hb dX0_feed_12 hl (by decide) rfl (fun ls hl => ?_)
  refine lv_aload_n hx hb dX0_feed_14 rfl (lv_at hl 2 rfl) ?_
  refine g_get hx hb C h (ci := 0) in_X0 rfl 0 rfl 2 (by decide) q89 rfl rfl dX0_feed_15 ?_
  refine lv_iload hx hb dX0_feed_18 (lv_at hl 0 rfl) ?_
  refine lv_iadd hx hb dX0_feed_20 ?_
  refine tp_i (y := nI (n + k2)) (nI_add (n) (k2)) ?_
  refine lv_sipush (v := nI (16384)) hx hb dX0_feed_21 (by decide) ?_
  refine lv_icmp_le (tgt := 29) hx hb dX0_feed_24 (by decide) (fun c_1 => ?_) (fun c_1 => ?_)
  · skip
    have h8 : n + k2 ≤ 16384 := (nI_leI (a := n + k2) (b := 16384) (by omega) (by decide)).mp c_1
    refine lv_aload_n hx hb dX0_feed_29 rfl (lv_at hl 2 rfl) ?_
    refine lv_dup hx hb dX0_feed_30 rfl ?_
    refine g_get hx hb C h (ci := 0) in_X0 rfl 0 rfl 2 (by decide) q89 rfl rfl dX0_feed_31 ?_
    refine lv_iload hx hb dX0_feed_34 (lv_at hl 0 rfl) ?_
    refine lv_iadd hx hb dX0_feed_36 ?_
    refine tp_i (y := nI (n + k2)) (nI_add (n) (k2)) ?_
    refine g_put hx hb C h (ci := 0) in_X0 tyX0 tyX0_ok nmX0 rfl 0 rfl 2 (by decide) q89 rfl rfl rfl rfl (Nat.le_of_ble_eq_true rfl) dX0_feed_37 (fun H locs h => ?_)
    have h : HS G A s _ _ [oX x [.ref d, .ref ou, .int (nI (n + k2)), .ref tx, .int (nI (z))], oD d [.ref pu, .ref xb, .int (xbo), .long (lN (n)), .ref va, .ref ia, .int (xo), .ref wa], aI G va 8 (v), aI G ia 16 (iw), aI G wa 68 (wk), aB G xb 4 (xf), aB G tx 1024 (t)] := h
    refine lv_aload_n hx hb dX0_feed_40 rfl (lv_at hl 2 rfl) ?_
    refine g_get hx hb C h (ci := 0) in_X0 rfl 0 rfl 0 (by decide) q87 rfl rfl dX0_feed_41 ?_
    refine lv_aload_n hx hb dX0_feed_44 rfl (lv_at hl 2 rfl) ?_
    refine g_get hx hb C h (ci := 0) in_X0 rfl 0 rfl 3 (by decide) q90 rfl rfl dX0_feed_45 ?_
    refine lv_iload_n hx hb dX0_feed_48 rfl (lv_at hl 1 rfl) ?_
    refine lv_iload hx hb dX0_feed_49 (lv_at hl 0 rfl) ?_
    refine kFv (Cn := "SM3Digest") (wr := [oX x [.ref d, .ref ou, .int (nI (n + k2)), .ref tx, .int (nI (z))]]) (rest := []) (na := 3) hx hb hml C h (c_X1_update l G d pu xb va ia wa tx 1024 k1 k2 n _ xbo xo v iw wk xf t msg (by decide) (by omega) (fun i hi => hm i hi h8) hmb hD) (x := ⟨"Digest", "update", "([BII)V"⟩) (lw_app (lw_c4 q133 q137 q139 q16) (lw_meth q141)) C.2.1.2.2.1 (by decide +kernel) rfl ⟨Nat.le_of_ble_eq_true rfl, Nat.le_of_ble_eq_true rfl⟩ 1 rfl rfl rfl [1, 2, 3, 4, 5, 6] (by decide) rfl [0] (by decide) rfl (by decide) hl.1 rfl (Nat.le_of_ble_eq_true rfl) ⟨Nat.le_of_ble_eq_true rfl, Nat.le_of_ble_eq_true rfl⟩ dX0_feed_51 (fun u H locs hp h => ?_)
    obtain ⟨v1, iw1, wk1, xf1, xo1, xbo1⟩ := u
    have h : HS G A s _ _ [oX x [.ref d, .ref ou, .int (nI (n + k2)), .ref tx, .int (nI (z))], oD d [.ref pu, .ref xb, .int (xbo1), .long (lN (n + k2)), .ref va, .ref ia, .int (xo1), .ref wa], aI G va 8 (v1), aI G ia 16 (iw1), aI G wa 68 (wk1), aB G xb 4 (xf1), aB G tx 1024 (t)] := h
    refine lv_iconst (v := 1) hx hb dX0_feed_56 (by decide) ?_
    have e1 : fedN n k2 = n + k2 := if_pos h8
    have h := h.eq [oX x [.ref d, .ref ou, .int (nI (fedN n k2)), .ref tx, .int (nI (z))], oD d [.ref pu, .ref xb, .int (xbo1), .long (lN (fedN n k2)), .ref va, .ref ia, .int (xo1), .ref wa], aI G va 8 (v1), aI G ia 16 (iw1), aI G wa 68 (wk1), aB G xb 4 (xf1), aB G tx 1024 (t)] (by rw [e1])
    exact retI hx hb hr hk (rfl) (v1, iw1, wk1, xf1, xo1, xbo1) h (⟨(if_pos h8).symm, by rw [e1]; exact hp⟩) dX0_feed_57
  · skip
    have h8 : ¬ n + k2 ≤ 16384 := fun q => c_1 ((nI_leI (a := n + k2) (b := 16384) (by omega) (by decide)).mpr q)
    refine lv_iconst (v := 0) hx hb dX0_feed_27 (by decide) ?_
    have e1 : fedN n k2 = n := if_neg h8
    have h := h.eq [oX x [.ref d, .ref ou, .int (nI (fedN n k2)), .ref tx, .int (nI (z))], oD d [.ref pu, .ref xb, .int (xbo), .long (lN (fedN n k2)), .ref va, .ref ia, .int (xo), .ref wa], aI G va 8 (v), aI G ia 16 (iw), aI G wa 68 (wk), aB G xb 4 (xf), aB G tx 1024 (t)] (by rw [e1])
    exact retI hx hb hr hk (rfl) (v, iw, wk, xf, xo, xbo) h (⟨(if_neg h8).symm, by rw [e1]; exact hD⟩) dX0_feed_28
set_option maxHeartbeats 4000000 in
theorem c_X0_one (l : Launch) (G : GG) (x d ou tx pu xb va ia wa : Nat) (n z sz : Nat) (a1 xbo xo : Int32) (v iw wk xf msg : Nat → Int32) (hn : n ≤ 16384) (hm : n + 1 ≤ 16384 → a1.toInt8.toInt32 = msg n) (hD : DB msg n v iw xf xo xbo) : CtI l G yX0_one cX0_one 2 .boolean 4 103 0 0 [.ref x, .int (a1)] [oX x [.ref d, .ref ou, .int (nI (n)), .ref tx, .int (nI (z))], oD d [.ref pu, .ref xb, .int (xbo), .long (lN (n)), .ref va, .ref ia, .int (xo), .ref wa], aI G va 8 (v), aI G ia 16 (iw), aI G wa 68 (wk), aB G xb 4 (xf)] sz (fun r (u : S6) => r = fedR n 1 ∧ DU msg (fedN n 1) u) (fun u => oX x [.ref d, .ref ou, .int (nI (fedN n 1)), .ref tx, .int (nI (z))] :: dW G d pu xb va ia wa (lN (fedN n 1)) u) := by
  refine entI "SmDigestDesk" rfl (by decide +kernel) (Nat.le_of_ble_eq_true rfl) ?_
  intro p e s m below meth c A ls hx hb hr hk hml hsz C h hl
  have hl : lv_has ls 2 [(0, .ref x), (1, .int (a1))] := hl
  refine lv_aload_n hx hb dX0_one_0 rfl (lv_at hl 0 rfl) ?_
  refine g_get hx hb C h (ci := 0) in_X0 rfl 0 rfl 2 (by decide) q89 rfl rfl dX0_one_1 ?_
  refine lv_sipush (v := nI (16384)) hx hb dX0_one_4 (by decide) ?_
  refine lv_icmp_lt (tgt := 12) hx hb dX0_one_7 (by decide) (fun c_1 => ?_) (fun c_1 => ?_)
  · skip
    have h8 : n + 1 ≤ 16384 := (nI_ltI (a := n) (b := 16384) (by omega) (by decide)).mp c_1
    refine lv_aload_n hx hb dX0_one_12 rfl (lv_at hl 0 rfl) ?_
    refine lv_dup hx hb dX0_one_13 rfl ?_
    refine g_get hx hb C h (ci := 0) in_X0 rfl 0 rfl 2 (by decide) q89 rfl rfl dX0_one_14 ?_
    refine lv_iconst (v := nI (1)) hx hb dX0_one_17 (by decide) ?_
    refine lv_iadd hx hb dX0_one_18 ?_
    refine tp_i (y := nI (n + 1)) (nI_add (n) (1)) ?_
    refine g_put hx hb C h (ci := 0) in_X0 tyX0 tyX0_ok nmX0 rfl 0 rfl 2 (by decide) q89 rfl rfl rfl rfl (Nat.le_of_ble_eq_true rfl) dX0_one_19 (fun H locs h => ?_)
    have h : HS G A s _ _ [oX x [.ref d, .ref ou, .int (nI (n + 1)), .ref tx, .int (nI (z))], oD d [.ref pu, .ref xb, .int (xbo), .long (lN (n)), .ref va, .ref ia, .int (xo), .ref wa], aI G va 8 (v), aI G ia 16 (iw), aI G wa 68 (wk), aB G xb 4 (xf)] := h
    refine lv_aload_n hx hb dX0_one_22 rfl (lv_at hl 0 rfl) ?_
    refine g_get hx hb C h (ci := 0) in_X0 rfl 0 rfl 0 (by decide) q87 rfl rfl dX0_one_23 ?_
    refine lv_iload_n hx hb dX0_one_26 rfl (lv_at hl 1 rfl) ?_
    refine lv_i2b (v := (a1).toInt8.toInt32) hx hb dX0_one_27 rfl ?_
    refine kFv (Cn := "SM3Digest") (wr := [oX x [.ref d, .ref ou, .int (nI (n + 1)), .ref tx, .int (nI (z))]]) (rest := []) (na := 1) hx hb hml C h (c_X1_update_2 l G d pu xb va ia wa n _ xbo xo (a1.toInt8.toInt32) v iw wk xf msg (pk_vb _) hD (hm h8)) (x := ⟨"Digest", "update", "(B)V"⟩) (lw_app (lw_c4 q189 q192 q194 q16) (lw_meth q196)) C.2.1.2.2.2.1 (by decide +kernel) rfl ⟨Nat.le_of_ble_eq_true rfl, Nat.le_of_ble_eq_true rfl⟩ 1 rfl rfl rfl [1, 2, 3, 4, 5] (by decide) rfl [0] (by decide) rfl (by decide) hl.1 rfl (Nat.le_of_ble_eq_true rfl) ⟨Nat.le_of_ble_eq_true rfl, Nat.le_of_ble_eq_true rfl⟩ dX0_one_28 (fun u H locs hp h => ?_)
    obtain ⟨v1, iw1, wk1, xf1, xo1, xbo1⟩ := u
    have h : HS G A s _ _ [oX x [.ref d, .ref ou, .int (nI (n + 1)), .ref tx, .int (nI (z))], oD d [.ref pu, .ref xb, .int (xbo1), .long (lN (n + 1)), .ref va, .ref ia, .int (xo1), .ref wa], aI G va 8 (v1), aI G ia 16 (iw1), aI G wa 68 (wk1), aB G xb 4 (xf1)] := h
    refine lv_iconst (v := 1) hx hb dX0_one_33 (by decide) ?_
    have e1 : fedN n 1 = n + 1 := if_pos h8
    have h := h.eq [oX x [.ref d, .ref ou, .int (nI (fedN n 1)), .ref tx, .int (nI (z))], oD d [.ref pu, .ref xb, .int (xbo1), .long (lN (fedN n 1)), .ref va, .ref ia, .int (xo1), .ref wa], aI G va 8 (v1), aI G ia 16 (iw1), aI G wa 68 (wk1), aB G xb 4 (xf1)] (by rw [e1])
    exact retI hx hb hr hk (rfl) (v1, iw1, wk1, xf1, xo1, xbo1) h (⟨(if_pos h8).symm, by rw [e1]; exact hp⟩) dX0_one_34
  · skip
    have h8 : ¬ n + 1 ≤ 16384 := fun q => c_1 ((nI_ltI (a := n) (b := 16384) (by omega) (by decide)).mpr q)
    refine lv_iconst (v := 0) hx hb dX0_one_10 (by decide) ?_
    have e1 : fedN n 1 = n := if_neg h8
    have h := h.eq [oX x [.ref d, .ref ou, .int (nI (fedN n 1)), .ref tx, .int (nI (z))], oD d [.ref pu, .ref xb, .int (xbo), .long (lN (fedN n 1)), .ref va, .ref ia, .int (xo), .ref wa], aI G va 8 (v), aI G ia 16 (iw), aI G wa 68 (wk), aB G xb 4 (xf)] (by rw [e1])
    exact retI hx hb hr hk (rfl) (v, iw, wk, xf, xo, xbo) h (⟨(if_neg h8).symm, by rw [e1]; exact hD⟩) dX0_one_11
set_option maxHeartbeats 4000000 in
theorem c_X0_close (l : Launch) (G : GG) (x d ou tx pu xb va ia wa : Nat) (n z sz : Nat) (xbo xo : Int32) (v iw wk xf of msg msg2 : Nat → Int32) (hn : n ≤ 16384) (hD : DB msg n v iw xf xo xbo) : CtI l G yX0_close cX0_close 1 .int 6 147 0 0 [.ref x] [oX x [.ref d, .ref ou, .int (nI (n)), .ref tx, .int (nI (z))], oD d [.ref pu, .ref xb, .int (xbo), .long (lN (n)), .ref va, .ref ia, .int (xo), .ref wa], aI G va 8 (v), aI G ia 16 (iw), aI G wa 68 (wk), aB G xb 4 (xf), aB G ou 64 (of)] sz (fun r (u : S6 × (Nat → Int32)) => r = nI 32 ∧ DU msg2 0 u.1 ∧ v8 u.2 = chn (sqw msg n (64 * ((n + 8) / 64 + 1))) ((n + 8) / 64 + 1)) (fun u => oX x [.ref d, .ref ou, .int (nI (0)), .ref tx, .int (nI (z))] :: dW G d pu xb va ia wa 0 u.1 ++ [aB G ou 64 (upk of 0 (obs u.2) 32)]) := by
  refine entI "SmDigestDesk" rfl (by decide +kernel) (Nat.le_of_ble_eq_true rfl) ?_
  intro p e s m below meth c A ls hx hb hr hk hml hsz C h hl
  have hl : lv_has ls 1 [(0, .ref x)] := hl
  refine lv_aload_n hx hb dX0_close_0 rfl (lv_at hl 0 rfl) ?_
  refine lv_iconst (v := 0) hx hb dX0_close_1 (by decide) ?_
  refine g_put hx hb C h (ci := 0) in_X0 tyX0 tyX0_ok nmX0 rfl 0 rfl 2 (by decide) q89 rfl rfl rfl rfl (Nat.le_of_ble_eq_true rfl) dX0_close_2 (fun H locs h => ?_)
  have h : HS G A s _ _ [oX x [.ref d, .ref ou, .int (0), .ref tx, .int (nI (z))], oD d [.ref pu, .ref xb, .int (xbo), .long (lN (n)), .ref va, .ref ia, .int (xo), .ref wa], aI G va 8 (v), aI G ia 16 (iw), aI G wa 68 (wk), aB G xb 4 (xf), aB G ou 64 (of)] := h
  refine lv_aload_n hx hb dX0_close_5 rfl (lv_at hl 0 rfl) ?_
  refine g_get hx hb C h (ci := 0) in_X0 rfl 0 rfl 0 (by decide) q87 rfl rfl dX0_close_6 ?_
  refine lv_aload_n hx hb dX0_close_9 rfl (lv_at hl 0 rfl) ?_
  refine g_get hx hb C h (ci := 0) in_X0 rfl 0 rfl 1 (by decide) q88 rfl rfl dX0_close_10 ?_
  refine lv_iconst (v := nI (0)) hx hb dX0_close_13 (by decide) ?_
  refine kFi (Cn := "SM3Digest") (wr := [oX x [.ref d, .ref ou, .int (0), .ref tx, .int (nI (z))]]) (rest := []) (na := 2) hx hb hml C h (c_X2_doFinal l G d pu xb va ia wa ou n ((n + 8) / 64) _ xbo xo v iw wk xf of (pm msg n) (sqw msg n (64 * ((n + 8) / 64 + 1))) msg2 hn (hD.congr (pm_lo msg n)) (pm_n msg n) (pm_hi msg n) rfl (sq_lo rfl) (sq_14 hn rfl rfl) (sq_15 hn rfl rfl)) (x := ⟨"Digest", "doFinal", "([BI)I"⟩) (lw_app (lw_c4 q202 q205 q207 q17) (lw_meth q209)) C.2.1.2.2.2.2.1 (by decide +kernel) rfl ⟨Nat.le_of_ble_eq_true rfl, Nat.le_of_ble_eq_true rfl⟩ 1 rfl rfl rfl [1, 2, 3, 4, 5, 6] (by decide) rfl [0] (by decide) rfl (by decide) hl.1 rfl (Nat.le_of_ble_eq_true rfl) ⟨Nat.le_of_ble_eq_true rfl, Nat.le_of_ble_eq_true rfl⟩ dX0_close_14 (fun r_19 u H locs hp h => ?_)
  obtain ⟨⟨v1, iw1, wk1, xf1, xo1, xbo1⟩, v2⟩ := u
  have h : HS G A s _ _ [oX x [.ref d, .ref ou, .int (0), .ref tx, .int (nI (z))], oD d [.ref pu, .ref xb, .int (xbo1), .long (0), .ref va, .ref ia, .int (xo1), .ref wa], aI G va 8 (v1), aI G ia 16 (iw1), aI G wa 68 (wk1), aB G xb 4 (xf1), aB G ou 64 (upk of 0 (obs v2) 32)] := h
  exact retI hx hb hr hk (rfl) ((v1, iw1, wk1, xf1, xo1, xbo1), v2) h (hp) dX0_close_19
set_option maxHeartbeats 4000000 in
theorem c_X0_drop (l : Launch) (G : GG) (x d ou tx pu xb va ia wa : Nat) (n z sz : Nat) (xbo xo : Int32) (v iw wk xf msg2 : Nat → Int32) : CtV l G yX0_drop cX0_drop 1 2 41 0 0 [.ref x] [oX x [.ref d, .ref ou, .int (nI (n)), .ref tx, .int (nI (z))], oD d [.ref pu, .ref xb, .int (xbo), .long (lN (n)), .ref va, .ref ia, .int (xo), .ref wa], aI G va 8 (v), aI G ia 16 (iw), aI G wa 68 (wk), aB G xb 4 (xf)] sz (fun u : S6 => DU msg2 0 u) (fun u => oX x [.ref d, .ref ou, .int (nI (0)), .ref tx, .int (nI (z))] :: dW G d pu xb va ia wa 0 u) := by
  refine entV "SmDigestDesk" rfl (by decide +kernel) (Nat.le_of_ble_eq_true rfl) ?_
  intro p e s m below meth c A ls hx hb hr hk hml hin hsz C h hl
  have hl : lv_has ls 1 [(0, .ref x)] := hl
  refine lv_aload_n hx hb dX0_drop_0 rfl (lv_at hl 0 rfl) ?_
  refine g_get hx hb C h (ci := 0) in_X0 rfl 0 rfl 0 (by decide) q87 rfl rfl dX0_drop_1 ?_
  refine kFv (Cn := "SM3Digest") (wr := [oX x [.ref d, .ref ou, .int (nI (n)), .ref tx, .int (nI (z))]]) (rest := []) (na := 0) hx hb hml C h (c_X2_reset l G d pu xb va ia wa _ xbo xo (lN (n)) v iw wk xf msg2) (x := ⟨"Digest", "reset", "()V"⟩) (lw_app (lw_c4 q238 q241 q46 q17) (lw_meth q48)) C.2.1.2.2.2.2.2 (by decide +kernel) rfl ⟨Nat.le_of_ble_eq_true rfl, Nat.le_of_ble_eq_true rfl⟩ 1 rfl rfl rfl [1, 2, 3, 4, 5] (by decide) rfl [0] (by decide) rfl (by decide) hl.1 rfl (Nat.le_of_ble_eq_true rfl) ⟨Nat.le_of_ble_eq_true rfl, Nat.le_of_ble_eq_true rfl⟩ dX0_drop_4 (fun u H locs hp h => ?_)
  obtain ⟨v1, iw1, wk1, xf1, xo1, xbo1⟩ := u
  have h : HS G A s _ _ [oX x [.ref d, .ref ou, .int (nI (n)), .ref tx, .int (nI (z))], oD d [.ref pu, .ref xb, .int (xbo1), .long (0), .ref va, .ref ia, .int (xo1), .ref wa], aI G va 8 (v1), aI G ia 16 (iw1), aI G wa 68 (wk1), aB G xb 4 (xf1)] := h
  refine lv_aload_n hx hb dX0_drop_9 rfl (lv_at hl 0 rfl) ?_
  refine lv_iconst (v := 0) hx hb dX0_drop_10 (by decide) ?_
  refine g_put hx hb C h (ci := 0) in_X0 tyX0 tyX0_ok nmX0 rfl 0 rfl 2 (by decide) q89 rfl rfl rfl rfl (Nat.le_of_ble_eq_true rfl) dX0_drop_11 (fun H locs h => ?_)
  have h : HS G A s _ _ [oX x [.ref d, .ref ou, .int (0), .ref tx, .int (nI (z))], oD d [.ref pu, .ref xb, .int (xbo1), .long (0), .ref va, .ref ia, .int (xo1), .ref wa], aI G va 8 (v1), aI G ia 16 (iw1), aI G wa 68 (wk1), aB G xb 4 (xf1)] := h
  exact retV hx hb hr hk (v1, iw1, wk1, xf1, xo1, xbo1) h (hp) dX0_drop_14
end
section
/-! SmDigestDeskModel -/
set_option maxRecDepth 100000
def ivf (k : Nat) : Int32 := match k with
  | 0 => 1937774191
  | 1 => 1226093241
  | 2 => 388252375
  | 3 => -628488704
  | 4 => -1452330820
  | 5 => 372324522
  | 6 => -477237683
  | _ => -1325724082
def feedT (g : Nat → Int32) (n k1 k2 : Nat) (t : Nat → Int32) : Nat → Int32 := if n + k2 ≤ 16384 then upk g n (fun i => t (k1 + i)) k2 else g
def oneT (g : Nat → Int32) (n : Nat) (x : Int32) : Nat → Int32 := if n + 1 ≤ 16384 then upd g n x else g
theorem upk_s0 (o g : Nat → Int32) (i : Nat) : upk o 0 g (i + 1) = upd (upk o 0 g i) i (g i) := by
  show upd _ (0 + i) _ = _
  rw [Nat.zero_add]
set_option maxHeartbeats 4000000 in
theorem c_X3_from (l : Launch) (G : GG) (mo mou mtx mms mwa mva mra : Nat) (n z sz : Nat) (a1 : Int32) (hz : z ≤ 1024) : CtP l G yX3_from cX3_from 2 .int 0 0 [.ref mo, .int (a1)] [oM mo [.ref mou, .ref mtx, .int (nI (z)), .ref mms, .int (nI (n)), .ref mwa, .ref mva, .ref mra]] sz (fun r => r = nI (fN a1 % (z + 1))) := by
  have hf := fN_lt a1
  refine entP "SmDigestDeskModel" rfl (by decide +kernel) (Nat.le_of_ble_eq_true rfl) ?_
  intro p e s m below meth c A ls hx hb hr hk hml hsz C h hl
  have hl : lv_has ls 2 [(0, .ref mo), (1, .int (a1))] := hl
  refine lv_iload_n hx hb dX3_from_0 rfl (lv_at hl 1 rfl) ?_
  refine lv_ldc (v := 2147483647) hx hb C.2.2.2.1 (C.2.2.2.2 _ q291) dX3_from_1 ?_
  refine lv_iand hx hb dX3_from_3 ?_
  refine tp_i (y := nI (fN a1)) (fN_and a1) ?_
  refine lv_aload_n hx hb dX3_from_4 rfl (lv_at hl 0 rfl) ?_
  refine g_get hx hb C h (ci := 2) in_X3 rfl 0 rfl 2 (by decide) q256 rfl rfl dX3_from_5 ?_
  refine lv_iconst (v := nI (1)) hx hb dX3_from_8 (by decide) ?_
  refine lv_iadd hx hb dX3_from_9 ?_
  refine tp_i (y := nI (z + 1)) (nI_add (z) (1)) ?_
  refine lv_irem hx hb dX3_from_10 (nI_ne0 (n := z + 1) (by omega) (by omega)) ?_
  refine tp_i (y := nI ((fN a1) % (z + 1))) (pk_rem (a := fN a1) (d := z + 1) (by omega) (by omega) (by omega)) ?_
  exact retP hx hb hr hk (rfl) (rfl) dX3_from_11
set_option maxHeartbeats 4000000 in
theorem c_X3_count (l : Launch) (G : GG) (mo mou mtx mms mwa mva mra : Nat) (n z k1 sz : Nat) (a2 : Int32) (hz : z ≤ 1024) (hk1 : k1 ≤ z) : CtP l G yX3_count cX3_count 3 .int 0 0 [.ref mo, .int (nI (k1)), .int (a2)] [oM mo [.ref mou, .ref mtx, .int (nI (z)), .ref mms, .int (nI (n)), .ref mwa, .ref mva, .ref mra]] sz (fun r => r = nI (fN a2 % (z - k1 + 1))) := by
  have hf := fN_lt a2
  refine entP "SmDigestDeskModel" rfl (by decide +kernel) (Nat.le_of_ble_eq_true rfl) ?_
  intro p e s m below meth c A ls hx hb hr hk hml hsz C h hl
  have hl : lv_has ls 3 [(0, .ref mo), (1, .int (nI (k1))), (2, .int (a2))] := hl
  refine lv_iload_n hx hb dX3_count_0 rfl (lv_at hl 2 rfl) ?_
  refine lv_ldc (v := 2147483647) hx hb C.2.2.2.1 (C.2.2.2.2 _ q291) dX3_count_1 ?_
  refine lv_iand hx hb dX3_count_3 ?_
  refine tp_i (y := nI (fN a2)) (fN_and a2) ?_
  refine lv_aload_n hx hb dX3_count_4 rfl (lv_at hl 0 rfl) ?_
  refine g_get hx hb C h (ci := 2) in_X3 rfl 0 rfl 2 (by decide) q256 rfl rfl dX3_count_5 ?_
  refine lv_iload_n hx hb dX3_count_8 rfl (lv_at hl 1 rfl) ?_
  refine lv_isub hx hb dX3_count_9 ?_
  refine tp_i (y := nI (z - k1)) (pk_sub (a := z) (b := k1) (by omega)) ?_
  refine lv_iconst (v := nI (1)) hx hb dX3_count_10 (by decide) ?_
  refine lv_iadd hx hb dX3_count_11 ?_
  refine tp_i (y := nI (z - k1 + 1)) (nI_add (z - k1) (1)) ?_
  refine lv_irem hx hb dX3_count_12 (nI_ne0 (n := z - k1 + 1) (by omega) (by omega)) ?_
  refine tp_i (y := nI ((fN a2) % (z - k1 + 1))) (pk_rem (a := fN a2) (d := z - k1 + 1) (by omega) (by omega) (by omega)) ?_
  exact retP hx hb hr hk (rfl) (rfl) dX3_count_13
set_option maxHeartbeats 4000000 in
theorem c_X3_out (l : Launch) (G : GG) (mo mou mtx mms mwa mva mra : Nat) (n z sz : Nat) (a1 : Int32) (of : Nat → Int32) : CtP l G yX3_out cX3_out 2 .int 0 0 [.ref mo, .int (a1)] [oM mo [.ref mou, .ref mtx, .int (nI (z)), .ref mms, .int (nI (n)), .ref mwa, .ref mva, .ref mra], aB G mou 64 (of)] sz (fun r => r = (of (fN a1 % 64)) &&& 255) := by
  have hf := fN_lt a1
  refine entP "SmDigestDeskModel" rfl (by decide +kernel) (Nat.le_of_ble_eq_true rfl) ?_
  intro p e s m below meth c A ls hx hb hr hk hml hsz C h hl
  have hl : lv_has ls 2 [(0, .ref mo), (1, .int (a1))] := hl
  refine lv_aload_n hx hb dX3_out_0 rfl (lv_at hl 0 rfl) ?_
  refine g_get hx hb C h (ci := 2) in_X3 rfl 0 rfl 0 (by decide) q254 rfl rfl dX3_out_1 ?_
  refine lv_iload_n hx hb dX3_out_4 rfl (lv_at hl 1 rfl) ?_
  refine lv_ldc (v := 2147483647) hx hb C.2.2.2.1 (C.2.2.2.2 _ q291) dX3_out_5 ?_
  refine lv_iand hx hb dX3_out_7 ?_
  refine tp_i (y := nI (fN a1)) (fN_and a1) ?_
  refine lv_bipush (v := nI (64)) hx hb dX3_out_8 (by decide) ?_
  refine lv_irem hx hb dX3_out_10 (nI_ne0 (n := 64) (by omega) (by omega)) ?_
  refine tp_i (y := nI ((fN a1) % 64)) (pk_rem (a := fN a1) (d := 64) (by omega) (by omega) (by omega)) ?_
  refine g_bld (j := (fN a1) % 64) hx hb C h 1 rfl (by omega) (by decide) dX3_out_11 ?_
  refine lv_sipush (v := 255) hx hb dX3_out_12 (by decide) ?_
  refine lv_iand hx hb dX3_out_15 ?_
  exact retP hx hb hr hk (rfl) (rfl) dX3_out_16
set_option maxHeartbeats 4000000 in
theorem c_X3_trim (l : Launch) (G : GG) (mo mou mtx mms mwa mva mra : Nat) (n z sz : Nat) (a1 : Int32) (hz : z ≤ 1024) : CtV l G yX3_trim cX3_trim 2 1 21 0 0 [.ref mo, .int (a1)] [oM mo [.ref mou, .ref mtx, .int (nI (z)), .ref mms, .int (nI (n)), .ref mwa, .ref mva, .ref mra]] sz (fun _ : Unit => True) (fun _ => [oM mo [.ref mou, .ref mtx, .int (nI (fN a1 % (z + 1))), .ref mms, .int (nI (n)), .ref mwa, .ref mva, .ref mra]]) := by
  refine entV "SmDigestDeskModel" rfl (by decide +kernel) (Nat.le_of_ble_eq_true rfl) ?_
  intro p e s m below meth c A ls hx hb hr hk hml hin hsz C h hl
  have hl : lv_has ls 2 [(0, .ref mo), (1, .int (a1))] := hl
  refine lv_aload_n hx hb dX3_trim_0 rfl (lv_at hl 0 rfl) ?_
  refine lv_aload_n hx hb dX3_trim_1 rfl (lv_at hl 0 rfl) ?_
  refine lv_iload_n hx hb dX3_trim_2 rfl (lv_at hl 1 rfl) ?_
  refine kVp (Cn := "SmDigestDeskModel") (rest := [.ref mo]) (na := 1) hx hb hml C h (c_X3_from l G mo mou mtx mms mwa mva mra n z _ a1 hz) (lw_V q287 q289 qs9 q20 q290) (by decide +kernel) rfl ⟨Nat.le_of_ble_eq_true rfl, Nat.le_of_ble_eq_true rfl⟩ 0 rfl rfl rfl [0] (by decide) rfl hl.1 rfl (Nat.le_of_ble_eq_true rfl) ⟨Nat.le_of_ble_eq_true rfl, Nat.le_of_ble_eq_true rfl⟩ dX3_trim_3 (fun r_6 hp => ?_)
  obtain rfl : r_6 = nI (fN a1 % (z + 1)) := hp
  refine g_put hx hb C h (ci := 2) in_X3 tyX3 tyX3_ok nmX3 rfl 0 rfl 2 (by decide) q256 rfl rfl rfl rfl (Nat.le_of_ble_eq_true rfl) dX3_trim_6 (fun H locs h => ?_)
  have h : HS G A s _ _ [oM mo [.ref mou, .ref mtx, .int (nI (fN a1 % (z + 1))), .ref mms, .int (nI (n)), .ref mwa, .ref mva, .ref mra]] := h
  exact retV hx hb hr hk () h (trivial) dX3_trim_9
set_option maxHeartbeats 4000000 in
theorem c_X3_begin (l : Launch) (G : GG) (mo mou mtx mms mwa mva mra : Nat) (n z sz : Nat) (a1 : Int32) : CtV l G yX3_begin cX3_begin 2 0 0 0 0 [.ref mo, .int (a1)] [oM mo [.ref mou, .ref mtx, .int (nI (z)), .ref mms, .int (nI (n)), .ref mwa, .ref mva, .ref mra]] sz (fun _ : Unit => True) (fun _ => [oM mo [.ref mou, .ref mtx, .int (nI (z)), .ref mms, .int (nI (0)), .ref mwa, .ref mva, .ref mra]]) := by
  refine entV "SmDigestDeskModel" rfl (by decide +kernel) (Nat.le_of_ble_eq_true rfl) ?_
  intro p e s m below meth c A ls hx hb hr hk hml hin hsz C h hl
  have hl : lv_has ls 2 [(0, .ref mo), (1, .int (a1))] := hl
  refine lv_aload_n hx hb dX3_begin_0 rfl (lv_at hl 0 rfl) ?_
  refine lv_iconst (v := 0) hx hb dX3_begin_1 (by decide) ?_
  refine g_put hx hb C h (ci := 2) in_X3 tyX3 tyX3_ok nmX3 rfl 0 rfl 4 (by decide) q258 rfl rfl rfl rfl (Nat.le_of_ble_eq_true rfl) dX3_begin_2 (fun H locs h => ?_)
  have h : HS G A s _ _ [oM mo [.ref mou, .ref mtx, .int (nI (z)), .ref mms, .int (0), .ref mwa, .ref mva, .ref mra]] := h
  exact retV hx hb hr hk () h (trivial) dX3_begin_5
set_option maxHeartbeats 4000000 in
theorem c_X3_drop (l : Launch) (G : GG) (mo mou mtx mms mwa mva mra : Nat) (n z sz : Nat) (a1 : Int32) : CtV l G yX3_drop cX3_drop 1 0 0 0 0 [.ref mo] [oM mo [.ref mou, .ref mtx, .int (nI (z)), .ref mms, .int (nI (n)), .ref mwa, .ref mva, .ref mra]] sz (fun _ : Unit => True) (fun _ => [oM mo [.ref mou, .ref mtx, .int (nI (z)), .ref mms, .int (nI (0)), .ref mwa, .ref mva, .ref mra]]) := by
  refine entV "SmDigestDeskModel" rfl (by decide +kernel) (Nat.le_of_ble_eq_true rfl) ?_
  intro p e s m below meth c A ls hx hb hr hk hml hin hsz C h hl
  have hl : lv_has ls 1 [(0, .ref mo)] := hl
  refine lv_aload_n hx hb dX3_drop_0 rfl (lv_at hl 0 rfl) ?_
  refine lv_iconst (v := 0) hx hb dX3_drop_1 (by decide) ?_
  refine g_put hx hb C h (ci := 2) in_X3 tyX3 tyX3_ok nmX3 rfl 0 rfl 4 (by decide) q258 rfl rfl rfl rfl (Nat.le_of_ble_eq_true rfl) dX3_drop_2 (fun H locs h => ?_)
  have h : HS G A s _ _ [oM mo [.ref mou, .ref mtx, .int (nI (z)), .ref mms, .int (0), .ref mwa, .ref mva, .ref mra]] := h
  exact retV hx hb hr hk () h (trivial) dX3_drop_5
set_option maxHeartbeats 4000000 in
theorem c_X3_init (l : Launch) (G : GG) (mo sz : Nat) : CtV l G yX3_init cX3_init 1 1 20 6 17556 [.ref mo] [oM mo [.null, .null, .int (0), .null, .int (0), .null, .null, .null]] sz (fun _ : Nat × Nat × Nat × Nat × Nat × Nat => True) (fun u => [oM mo [.ref u.1, .ref u.2.1, .int (0), .ref u.2.2.1, .int (0), .ref u.2.2.2.1, .ref u.2.2.2.2.1, .ref u.2.2.2.2.2], aB G u.1 64 (fun _ => 0), aB G u.2.1 1024 (fun _ => 0), aB G u.2.2.1 16384 (fun _ => 0), aI G u.2.2.2.1 68 (fun _ => 0), aI G u.2.2.2.2.1 8 (fun _ => 0), aI G u.2.2.2.2.2 8 (fun _ => 0)]) := by
  refine entV "SmDigestDeskModel" rfl (by decide +kernel) (Nat.le_of_ble_eq_true rfl) ?_
  intro p e s m below meth c A ls hx hb hr hk hml hin hsz C h hl
  have hl : lv_has ls 1 [(0, .ref mo)] := hl
  refine lv_aload_n hx hb dX3_init_0 rfl (lv_at hl 0 rfl) ?_
  refine W.objInit hx hb C.2.2.2.1 (C.2.2.2.2 _ q253) (C.2.2.2.2 _ q29) (C.2.2.2.2 _ q30) rfl (by rw [hml]; exact hl.1) rfl dX3_init_1 (Nat.le_of_ble_eq_true rfl) (Nat.le_of_ble_eq_true rfl) ?_
  refine W.eq (g2 := F0 m 4 ls []) rfl ?_
  refine lv_aload_n hx hb dX3_init_4 rfl (lv_at hl 0 rfl) ?_
  refine lv_bipush (v := nI (64)) hx hb dX3_init_5 (by decide) ?_
  refine g_newB hx hb C h 64 (by decide) (Nat.le_of_ble_eq_true rfl) (Nat.le_of_ble_eq_true rfl) dX3_init_7 (fun z1 H h => ?_)
  have h : HS G A s _ _ [oM mo [.null, .null, .int (0), .null, .int (0), .null, .null, .null], aB G z1 64 (fun _ => 0)] := h
  refine g_putF hx hb C h hin (ci := 2) in_X3 tyX3 tyX3_ok nmX3 rfl 0 rfl 0 (by decide) q254 rfl rfl rfl rfl rfl (Nat.le_of_ble_eq_true rfl) dX3_init_9 (fun H locs h => ?_)
  have h : HS G A s _ _ [oM mo [.ref z1, .null, .int (0), .null, .int (0), .null, .null, .null], aB G z1 64 (fun _ => 0)] := h
  refine lv_aload_n hx hb dX3_init_12 rfl (lv_at hl 0 rfl) ?_
  refine lv_sipush (v := nI (1024)) hx hb dX3_init_13 (by decide) ?_
  refine g_newB hx hb C h 1024 (by decide) (Nat.le_of_ble_eq_true rfl) (Nat.le_of_ble_eq_true rfl) dX3_init_16 (fun z2 H h => ?_)
  have h : HS G A s _ _ [oM mo [.ref z1, .null, .int (0), .null, .int (0), .null, .null, .null], aB G z1 64 (fun _ => 0), aB G z2 1024 (fun _ => 0)] := h
  refine g_putF hx hb C h hin (ci := 2) in_X3 tyX3 tyX3_ok nmX3 rfl 0 rfl 1 (by decide) q255 rfl rfl rfl rfl rfl (Nat.le_of_ble_eq_true rfl) dX3_init_18 (fun H locs h => ?_)
  have h : HS G A s _ _ [oM mo [.ref z1, .ref z2, .int (0), .null, .int (0), .null, .null, .null], aB G z1 64 (fun _ => 0), aB G z2 1024 (fun _ => 0)] := h
  refine lv_aload_n hx hb dX3_init_21 rfl (lv_at hl 0 rfl) ?_
  refine lv_sipush (v := nI (16384)) hx hb dX3_init_22 (by decide) ?_
  refine g_newB hx hb C h 16384 (by decide) (Nat.le_of_ble_eq_true rfl) (Nat.le_of_ble_eq_true rfl) dX3_init_25 (fun z3 H h => ?_)
  have h : HS G A s _ _ [oM mo [.ref z1, .ref z2, .int (0), .null, .int (0), .null, .null, .null], aB G z1 64 (fun _ => 0), aB G z2 1024 (fun _ => 0), aB G z3 16384 (fun _ => 0)] := h
  refine g_putF hx hb C h hin (ci := 2) in_X3 tyX3 tyX3_ok nmX3 rfl 0 rfl 3 (by decide) q257 rfl rfl rfl rfl rfl (Nat.le_of_ble_eq_true rfl) dX3_init_27 (fun H locs h => ?_)
  have h : HS G A s _ _ [oM mo [.ref z1, .ref z2, .int (0), .ref z3, .int (0), .null, .null, .null], aB G z1 64 (fun _ => 0), aB G z2 1024 (fun _ => 0), aB G z3 16384 (fun _ => 0)] := h
  refine lv_aload_n hx hb dX3_init_30 rfl (lv_at hl 0 rfl) ?_
  refine lv_bipush (v := nI (68)) hx hb dX3_init_31 (by decide) ?_
  refine g_newI hx hb C h 68 (by decide) (Nat.le_of_ble_eq_true rfl) (Nat.le_of_ble_eq_true rfl) dX3_init_33 (fun z4 H h => ?_)
  have h : HS G A s _ _ [oM mo [.ref z1, .ref z2, .int (0), .ref z3, .int (0), .null, .null, .null], aB G z1 64 (fun _ => 0), aB G z2 1024 (fun _ => 0), aB G z3 16384 (fun _ => 0), aI G z4 68 (fun _ => 0)] := h
  refine g_putF hx hb C h hin (ci := 2) in_X3 tyX3 tyX3_ok nmX3 rfl 0 rfl 5 (by decide) q259 rfl rfl rfl rfl rfl (Nat.le_of_ble_eq_true rfl) dX3_init_35 (fun H locs h => ?_)
  have h : HS G A s _ _ [oM mo [.ref z1, .ref z2, .int (0), .ref z3, .int (0), .ref z4, .null, .null], aB G z1 64 (fun _ => 0), aB G z2 1024 (fun _ => 0), aB G z3 16384 (fun _ => 0), aI G z4 68 (fun _ => 0)] := h
  refine lv_aload_n hx hb dX3_init_38 rfl (lv_at hl 0 rfl) ?_
  refine lv_bipush (v := nI (8)) hx hb dX3_init_39 (by decide) ?_
  refine g_newI hx hb C h 8 (by decide) (Nat.le_of_ble_eq_true rfl) (Nat.le_of_ble_eq_true rfl) dX3_init_41 (fun z5 H h => ?_)
  have h : HS G A s _ _ [oM mo [.ref z1, .ref z2, .int (0), .ref z3, .int (0), .ref z4, .null, .null], aB G z1 64 (fun _ => 0), aB G z2 1024 (fun _ => 0), aB G z3 16384 (fun _ => 0), aI G z4 68 (fun _ => 0), aI G z5 8 (fun _ => 0)] := h
  refine g_putF hx hb C h hin (ci := 2) in_X3 tyX3 tyX3_ok nmX3 rfl 0 rfl 6 (by decide) q260 rfl rfl rfl rfl rfl (Nat.le_of_ble_eq_true rfl) dX3_init_43 (fun H locs h => ?_)
  have h : HS G A s _ _ [oM mo [.ref z1, .ref z2, .int (0), .ref z3, .int (0), .ref z4, .ref z5, .null], aB G z1 64 (fun _ => 0), aB G z2 1024 (fun _ => 0), aB G z3 16384 (fun _ => 0), aI G z4 68 (fun _ => 0), aI G z5 8 (fun _ => 0)] := h
  refine lv_aload_n hx hb dX3_init_46 rfl (lv_at hl 0 rfl) ?_
  refine lv_bipush (v := nI (8)) hx hb dX3_init_47 (by decide) ?_
  refine g_newI hx hb C h 8 (by decide) (Nat.le_of_ble_eq_true rfl) (Nat.le_of_ble_eq_true rfl) dX3_init_49 (fun z6 H h => ?_)
  have h : HS G A s _ _ [oM mo [.ref z1, .ref z2, .int (0), .ref z3, .int (0), .ref z4, .ref z5, .null], aB G z1 64 (fun _ => 0), aB G z2 1024 (fun _ => 0), aB G z3 16384 (fun _ => 0), aI G z4 68 (fun _ => 0), aI G z5 8 (fun _ => 0), aI G z6 8 (fun _ => 0)] := h
  refine g_putF hx hb C h hin (ci := 2) in_X3 tyX3 tyX3_ok nmX3 rfl 0 rfl 7 (by decide) q261 rfl rfl rfl rfl rfl (Nat.le_of_ble_eq_true rfl) dX3_init_51 (fun H locs h => ?_)
  have h : HS G A s _ _ [oM mo [.ref z1, .ref z2, .int (0), .ref z3, .int (0), .ref z4, .ref z5, .ref z6], aB G z1 64 (fun _ => 0), aB G z2 1024 (fun _ => 0), aB G z3 16384 (fun _ => 0), aI G z4 68 (fun _ => 0), aI G z5 8 (fun _ => 0), aI G z6 8 (fun _ => 0)] := h
  exact retV hx hb hr hk (z1, z2, z3, z4, z5, z6) h (trivial) dX3_init_54
set_option maxHeartbeats 4000000 in
theorem lp_X3_put {p : Program} {l : Launch} {e : Env} {s : State} {m : MethodId} {args : Array Value} {below : List Frame} {meth : Method} {c : Code} {Q : State → Prop} {G : GG} {A : Nat → Prop} (mo mou mtx mms mwa mva mra : Nat) (n z : Nat) (a b c_ d_ : Int32) (t : Nat → Int32) (h8 : z ≤ 1008) (hx : p.tables.exec = Jvm.exec) (hb : c.code = cX3_put) (hml : c.maxLocals = 7) (C : CX G A s args m "SmDigestDeskModel")
    (kx : ∀ (H : Heap) (locs : List Loc) (ls : Array Slot), HS G A s H locs [oM mo [.ref mou, .ref mtx, .int (nI (z)), .ref mms, .int (nI (n)), .ref mwa, .ref mva, .ref mra], aB G mtx 1024 (upk t z (q16b a b c_ d_) 16)] → lv_has ls 7 [(0, .ref mo), (1, .int (a)), (2, .int (b)), (3, .int (c_)), (4, .int (d_))] → W p l e (rmc 0 0 0 0) s m args below meth c H locs 0 0 Q (F0 m 93 ls [])) :
    ∀ (k i : Nat) (H : Heap) (locs : List Loc) (ls : Array Slot), i + k = 16 → HS G A s H locs [oM mo [.ref mou, .ref mtx, .int (nI (z)), .ref mms, .int (nI (n)), .ref mwa, .ref mva, .ref mra], aB G mtx 1024 (upk t z (q16b a b c_ d_) i)] → lv_has ls 7 [(0, .ref mo), (1, .int (a)), (2, .int (b)), (3, .int (c_)), (4, .int (d_)), (5, .int (nI (i)))] → W p l e (rmc 0 0 0 0) s m args below meth c H locs 0 0 Q (F0 m 18 ls []) := by
  intro k
  induction k with
  | zero =>
    intro i H locs ls hi h hl
    obtain rfl : i = 16 := by omega
    refine lv_iload hx hb dX3_put_18 (lv_at hl 5 rfl) ?_
    refine lv_bipush (v := nI (16)) hx hb dX3_put_20 (by decide) ?_
    refine lv_icmp_ge (tgt := 93) hx hb dX3_put_22 (by decide) (fun _ => ?_) (fun c_ => absurd (Int32.le_refl _) c_)
    exact kx H locs ls h (lv_sub hl [0, 1, 2, 3, 4] rfl)
  | succ k ih =>
    intro i H locs ls hi h hl
    have tail : W p l e (rmc 0 0 0 0) s m args below meth c H locs 0 0 Q (F0 m 59 ls [.int (q4 a b c_ d_ i)]) := by
      refine lv_istore (lv' := [(6, .int (q4 a b c_ d_ i)), (0, .ref mo), (1, .int (a)), (2, .int (b)), (3, .int (c_)), (4, .int (d_)), (5, .int (nI (i)))]) hx hb dX3_put_59 hl (by decide) rfl (fun ls hl => ?_)
      refine lv_aload_n hx hb dX3_put_61 rfl (lv_at hl 1 rfl) ?_
      refine g_get hx hb C h (ci := 2) in_X3 rfl 0 rfl 1 (by decide) q255 rfl rfl dX3_put_62 ?_
      refine lv_aload_n hx hb dX3_put_65 rfl (lv_at hl 1 rfl) ?_
      refine g_get hx hb C h (ci := 2) in_X3 rfl 0 rfl 2 (by decide) q256 rfl rfl dX3_put_66 ?_
      refine lv_iload hx hb dX3_put_69 (lv_at hl 6 rfl) ?_
      refine lv_iadd hx hb dX3_put_71 ?_
      refine tp_i (y := nI (z + i)) (nI_add (z) (i)) ?_
      refine lv_iload hx hb dX3_put_72 (lv_at hl 0 rfl) ?_
      refine lv_bipush (v := nI (24)) hx hb dX3_put_74 (by decide) ?_
      refine lv_bipush (v := nI (8)) hx hb dX3_put_76 (by decide) ?_
      refine lv_iload hx hb dX3_put_78 (lv_at hl 6 rfl) ?_
      refine lv_iconst (v := nI (4)) hx hb dX3_put_80 (by decide) ?_
      refine lv_irem hx hb dX3_put_81 (nI_ne0 (n := 4) (by omega) (by omega)) ?_
      refine tp_i (y := nI (i % 4)) (pk_rem (a := i) (d := 4) (by omega) (by omega) (by omega)) ?_
      refine lv_imul hx hb dX3_put_82 ?_
      refine tp_i (y := nI (8 * (i % 4))) (pk_mul (8) (i % 4)) ?_
      refine lv_isub hx hb dX3_put_83 ?_
      refine tp_i (y := nI (24 - (8 * (i % 4)))) (pk_sub (a := 24) (b := 8 * (i % 4)) (by omega)) ?_
      refine lv_iushr (v := (((q4 a b c_ d_ i)).toUInt32 >>> (Int32.toUInt32 (nI (24 - (8 * (i % 4)))) &&& Int32.toUInt32 31)).toInt32) hx hb dX3_put_84 rfl ?_
      refine lv_i2b (v := (((((q4 a b c_ d_ i)).toUInt32 >>> (Int32.toUInt32 (nI (24 - (8 * (i % 4)))) &&& Int32.toUInt32 31)).toInt32)).toInt8.toInt32) hx hb dX3_put_85 rfl ?_
      refine tp_i (y := q16b a b c_ d_ i) (rfl) ?_
      refine g_bst (j := z + i) (v := q16b a b c_ d_ i) hx hb C h 1 rfl (by omega) (by decide) (pk_vb _) dX3_put_86 (fun H locs h => ?_)
      have h : HS G A s _ _ [oM mo [.ref mou, .ref mtx, .int (nI (z)), .ref mms, .int (nI (n)), .ref mwa, .ref mva, .ref mra], aB G mtx 1024 (upd (upk t z (q16b a b c_ d_) i) (z + i) (q16b a b c_ d_ i))] := h
      refine lv_iinc (v := nI (i + 1)) (lv' := [(5, .int (nI (i + 1))), (6, .int (q4 a b c_ d_ i)), (0, .ref mo), (1, .int (a)), (2, .int (b)), (3, .int (c_)), (4, .int (d_))]) hx hb dX3_put_87 hl (k := 6) rfl (ii1 (i)) (by decide) rfl (fun ls hl => ?_)
      refine lv_goto (tgt := 18) hx hb dX3_put_90 (by decide) ?_
      exact ih (i + 1) H locs ls (by omega) h (lv_sub hl [2, 3, 4, 5, 6, 0] rfl)
    refine lv_iload hx hb dX3_put_18 (lv_at hl 5 rfl) ?_
    refine lv_bipush (v := nI (16)) hx hb dX3_put_20 (by decide) ?_
    refine lv_icmp_ge (tgt := 93) hx hb dX3_put_22 (by decide) (fun c_ => absurd c_ (nI_ge (a := i) (b := 16) (by omega) (by decide))) (fun _ => ?_)
    refine lv_iload hx hb dX3_put_25 (lv_at hl 5 rfl) ?_
    refine lv_iconst (v := nI (4)) hx hb dX3_put_27 (by decide) ?_
    refine lv_icmp_ge (tgt := 35) hx hb dX3_put_28 (by decide) (fun c_1 => ?_) (fun c_1 => ?_)
    · skip
      have h_1 : 4 ≤ i := (nI_leI (a := 4) (b := i) (by decide) (by omega)).mp c_1
      refine lv_iload hx hb dX3_put_35 (lv_at hl 5 rfl) ?_
      refine lv_bipush (v := nI (8)) hx hb dX3_put_37 (by decide) ?_
      refine lv_icmp_ge (tgt := 46) hx hb dX3_put_39 (by decide) (fun c_2 => ?_) (fun c_2 => ?_)
      · skip
        have h_2 : 8 ≤ i := (nI_leI (a := 8) (b := i) (by decide) (by omega)).mp c_2
        refine lv_iload hx hb dX3_put_46 (lv_at hl 5 rfl) ?_
        refine lv_bipush (v := nI (12)) hx hb dX3_put_48 (by decide) ?_
        refine lv_icmp_ge (tgt := 57) hx hb dX3_put_50 (by decide) (fun c_3 => ?_) (fun c_3 => ?_)
        · skip
          have h_3 : 12 ≤ i := (nI_leI (a := 12) (b := i) (by decide) (by omega)).mp c_3
          refine lv_iload hx hb dX3_put_57 (lv_at hl 4 rfl) ?_
          refine tp_i (y := q4 a b c_ d_ i) (((if_neg (by omega)).trans ((if_neg (by omega)).trans (if_neg (by omega)))).symm) ?_
          exact tail
        · skip
          have h_3 : i < 12 := by
            have : ¬ 12 ≤ i := fun q => c_3 ((nI_leI (a := 12) (b := i) (by decide) (by omega)).mpr q)
            omega
          refine lv_iload_n hx hb dX3_put_53 rfl (lv_at hl 3 rfl) ?_
          refine lv_goto (tgt := 59) hx hb dX3_put_54 (by decide) ?_
          refine tp_i (y := q4 a b c_ d_ i) (((if_neg (by omega)).trans ((if_neg (by omega)).trans (if_pos h_3))).symm) ?_
          exact tail
      · skip
        have h_2 : i < 8 := by
          have : ¬ 8 ≤ i := fun q => c_2 ((nI_leI (a := 8) (b := i) (by decide) (by omega)).mpr q)
          omega
        refine lv_iload_n hx hb dX3_put_42 rfl (lv_at hl 2 rfl) ?_
        refine lv_goto (tgt := 59) hx hb dX3_put_43 (by decide) ?_
        refine tp_i (y := q4 a b c_ d_ i) (((if_neg (by omega)).trans (if_pos h_2)).symm) ?_
        exact tail
    · skip
      have h_1 : i < 4 := by
        have : ¬ 4 ≤ i := fun q => c_1 ((nI_leI (a := 4) (b := i) (by decide) (by omega)).mpr q)
        omega
      refine lv_iload_n hx hb dX3_put_31 rfl (lv_at hl 1 rfl) ?_
      refine lv_goto (tgt := 59) hx hb dX3_put_32 (by decide) ?_
      refine tp_i (y := q4 a b c_ d_ i) ((if_pos h_1).symm) ?_
      exact tail
set_option maxHeartbeats 4000000 in
theorem c_X3_put (l : Launch) (G : GG) (mo mou mtx mms mwa mva mra : Nat) (n z sz : Nat) (a b c_ d_ : Int32) (t : Nat → Int32) (hz : z ≤ 1024) : CtI l G yX3_put cX3_put 7 .boolean 0 0 0 0 [.ref mo, .int (a), .int (b), .int (c_), .int (d_)] [oM mo [.ref mou, .ref mtx, .int (nI (z)), .ref mms, .int (nI (n)), .ref mwa, .ref mva, .ref mra], aB G mtx 1024 (t)] sz (fun r (_ : Unit) => r = putR z) (fun _ => [oM mo [.ref mou, .ref mtx, .int (nI (putZ z)), .ref mms, .int (nI (n)), .ref mwa, .ref mva, .ref mra], aB G mtx 1024 (putT t z a b c_ d_)]) := by
  refine entI "SmDigestDeskModel" rfl (by decide +kernel) (Nat.le_of_ble_eq_true rfl) ?_
  intro p e s m below meth c A ls hx hb hr hk hml hsz C h hl
  have hl : lv_has ls 7 [(0, .ref mo), (1, .int (a)), (2, .int (b)), (3, .int (c_)), (4, .int (d_))] := hl
  refine lv_aload_n hx hb dX3_put_0 rfl (lv_at hl 0 rfl) ?_
  refine g_get hx hb C h (ci := 2) in_X3 rfl 0 rfl 2 (by decide) q256 rfl rfl dX3_put_1 ?_
  refine lv_bipush (v := nI (16)) hx hb dX3_put_4 (by decide) ?_
  refine lv_iadd hx hb dX3_put_6 ?_
  refine tp_i (y := nI (z + 16)) (nI_add (z) (16)) ?_
  refine lv_sipush (v := nI (1024)) hx hb dX3_put_7 (by decide) ?_
  refine lv_icmp_le (tgt := 15) hx hb dX3_put_10 (by decide) (fun c_1 => ?_) (fun c_1 => ?_)
  · skip
    have h8 : z ≤ 1008 := by
      have := (nI_leI (a := z + 16) (b := 1024) (by omega) (by decide)).mp c_1
      omega
    refine lv_iconst (v := nI (0)) hx hb dX3_put_15 (by decide) ?_
    refine lv_istore (lv' := [(5, .int (nI (0))), (0, .ref mo), (1, .int (a)), (2, .int (b)), (3, .int (c_)), (4, .int (d_))]) hx hb dX3_put_16 hl (by decide) rfl (fun ls hl => ?_)
    refine lp_X3_put mo mou mtx mms mwa mva mra n z a b c_ d_ t h8 hx hb hml C (fun H locs ls h hl => ?_) 16 0 _ _ ls rfl h (lv_sub hl [1, 2, 3, 4, 5, 0] rfl)
    refine lv_aload_n hx hb dX3_put_93 rfl (lv_at hl 0 rfl) ?_
    refine lv_dup hx hb dX3_put_94 rfl ?_
    refine g_get hx hb C h (ci := 2) in_X3 rfl 0 rfl 2 (by decide) q256 rfl rfl dX3_put_95 ?_
    refine lv_bipush (v := nI (16)) hx hb dX3_put_98 (by decide) ?_
    refine lv_iadd hx hb dX3_put_100 ?_
    refine tp_i (y := nI (z + 16)) (nI_add (z) (16)) ?_
    refine g_put hx hb C h (ci := 2) in_X3 tyX3 tyX3_ok nmX3 rfl 0 rfl 2 (by decide) q256 rfl rfl rfl rfl (Nat.le_of_ble_eq_true rfl) dX3_put_101 (fun H locs h => ?_)
    have h : HS G A s _ _ [oM mo [.ref mou, .ref mtx, .int (nI (z + 16)), .ref mms, .int (nI (n)), .ref mwa, .ref mva, .ref mra], aB G mtx 1024 (upk t z (q16b a b c_ d_) 16)] := h
    refine lv_iconst (v := 1) hx hb dX3_put_104 (by decide) ?_
    have e1 : putT t z a b c_ d_ = upk t z (q16b a b c_ d_) 16 := if_pos h8
    have e2 : putZ z = z + 16 := if_pos h8
    have h := h.eq [oM mo [.ref mou, .ref mtx, .int (nI (putZ z)), .ref mms, .int (nI (n)), .ref mwa, .ref mva, .ref mra], aB G mtx 1024 (putT t z a b c_ d_)] (by rw [e1, e2])
    exact retI hx hb hr hk (rfl) () h ((if_pos h8).symm) dX3_put_105
  · skip
    have h8 : ¬ z ≤ 1008 := fun q => c_1 ((nI_leI (a := z + 16) (b := 1024) (by omega) (by decide)).mpr (by omega))
    refine lv_iconst (v := 0) hx hb dX3_put_13 (by decide) ?_
    have e1 : putT t z a b c_ d_ = t := if_neg h8
    have e2 : putZ z = z := if_neg h8
    have h := h.eq [oM mo [.ref mou, .ref mtx, .int (nI (putZ z)), .ref mms, .int (nI (n)), .ref mwa, .ref mva, .ref mra], aB G mtx 1024 (putT t z a b c_ d_)] (by rw [e1, e2])
    exact retI hx hb hr hk (rfl) () h ((if_neg h8).symm) dX3_put_14
set_option maxHeartbeats 4000000 in
theorem lp_X3_feed {p : Program} {l : Launch} {e : Env} {s : State} {m : MethodId} {args : Array Value} {below : List Frame} {meth : Method} {c : Code} {Q : State → Prop} {G : GG} {A : Nat → Prop} (mo mou mtx mms mwa mva mra : Nat) (n z k1 k2 : Nat) (g t : Nat → Int32) (hz : z ≤ 1024) (h8 : n + k2 ≤ 16384) (hkz : k1 + k2 ≤ z) (ht : Bt t) (hx : p.tables.exec = Jvm.exec) (hb : c.code = cX3_feed) (hml : c.maxLocals = 6) (C : CX G A s args m "SmDigestDeskModel")
    (kx : ∀ (H : Heap) (locs : List Loc) (ls : Array Slot), HS G A s H locs [oM mo [.ref mou, .ref mtx, .int (nI (z)), .ref mms, .int (nI (n)), .ref mwa, .ref mva, .ref mra], aB G mms 16384 (upk g n (fun i => t (k1 + i)) k2), aB G mtx 1024 (t)] → lv_has ls 6 [(0, .ref mo), (3, .int (nI (k1))), (4, .int (nI (k2)))] → W p l e (rmc 1 22 0 0) s m args below meth c H locs 0 0 Q (F0 m 66 ls [])) :
    ∀ (k i : Nat) (H : Heap) (locs : List Loc) (ls : Array Slot), i + k = k2 → HS G A s H locs [oM mo [.ref mou, .ref mtx, .int (nI (z)), .ref mms, .int (nI (n)), .ref mwa, .ref mva, .ref mra], aB G mms 16384 (upk g n (fun i => t (k1 + i)) i), aB G mtx 1024 (t)] → lv_has ls 6 [(0, .ref mo), (3, .int (nI (k1))), (4, .int (nI (k2))), (5, .int (nI (i)))] → W p l e (rmc 1 22 0 0) s m args below meth c H locs 0 0 Q (F0 m 32 ls []) := by
  intro k
  induction k with
  | zero =>
    intro i H locs ls hi h hl
    obtain rfl : i = k2 := by omega
    refine lv_iload hx hb dX3_feed_32 (lv_at hl 3 rfl) ?_
    refine lv_iload hx hb dX3_feed_34 (lv_at hl 2 rfl) ?_
    refine lv_icmp_ge (tgt := 66) hx hb dX3_feed_36 (by decide) (fun _ => ?_) (fun c_ => absurd (Int32.le_refl _) c_)
    exact kx H locs ls h (lv_sub hl [0, 1, 2] rfl)
  | succ k ih =>
    intro i H locs ls hi h hl
    refine lv_iload hx hb dX3_feed_32 (lv_at hl 3 rfl) ?_
    refine lv_iload hx hb dX3_feed_34 (lv_at hl 2 rfl) ?_
    refine lv_icmp_ge (tgt := 66) hx hb dX3_feed_36 (by decide) (fun c_ => absurd c_ (nI_ge (a := i) (b := k2) (by omega) (by omega))) (fun _ => ?_)
    refine lv_aload_n hx hb dX3_feed_39 rfl (lv_at hl 0 rfl) ?_
    refine g_get hx hb C h (ci := 2) in_X3 rfl 0 rfl 3 (by decide) q257 rfl rfl dX3_feed_40 ?_
    refine lv_aload_n hx hb dX3_feed_43 rfl (lv_at hl 0 rfl) ?_
    refine g_get hx hb C h (ci := 2) in_X3 rfl 0 rfl 4 (by decide) q258 rfl rfl dX3_feed_44 ?_
    refine lv_iload hx hb dX3_feed_47 (lv_at hl 3 rfl) ?_
    refine lv_iadd hx hb dX3_feed_49 ?_
    refine tp_i (y := nI (n + i)) (nI_add (n) (i)) ?_
    refine lv_aload_n hx hb dX3_feed_50 rfl (lv_at hl 0 rfl) ?_
    refine g_get hx hb C h (ci := 2) in_X3 rfl 0 rfl 1 (by decide) q255 rfl rfl dX3_feed_51 ?_
    refine lv_iload_n hx hb dX3_feed_54 rfl (lv_at hl 1 rfl) ?_
    refine lv_iload hx hb dX3_feed_55 (lv_at hl 3 rfl) ?_
    refine lv_iadd hx hb dX3_feed_57 ?_
    refine tp_i (y := nI (k1 + i)) (nI_add (k1) (i)) ?_
    refine g_bld (j := k1 + i) hx hb C h 2 rfl (by omega) (by decide) dX3_feed_58 ?_
    refine g_bst (j := n + i) (v := t (k1 + i)) hx hb C h 1 rfl (by omega) (by decide) (ht _) dX3_feed_59 (fun H locs h => ?_)
    have h : HS G A s _ _ [oM mo [.ref mou, .ref mtx, .int (nI (z)), .ref mms, .int (nI (n)), .ref mwa, .ref mva, .ref mra], aB G mms 16384 (upd (upk g n (fun i => t (k1 + i)) i) (n + i) (t (k1 + i))), aB G mtx 1024 (t)] := h
    refine lv_iinc (v := nI (i + 1)) (lv' := [(5, .int (nI (i + 1))), (0, .ref mo), (3, .int (nI (k1))), (4, .int (nI (k2)))]) hx hb dX3_feed_60 hl (k := 3) rfl (ii1 (i)) (by decide) rfl (fun ls hl => ?_)
    refine lv_goto (tgt := 32) hx hb dX3_feed_63 (by decide) ?_
    exact ih (i + 1) H locs ls (by omega) h (lv_sub hl [1, 2, 3, 0] rfl)
set_option maxHeartbeats 4000000 in
theorem c_X3_feed (l : Launch) (G : GG) (mo mou mtx mms mwa mva mra : Nat) (n z k1 k2 sz : Nat) (a1 a2 : Int32) (g t : Nat → Int32) (hz : z ≤ 1024) (hn : n ≤ 16384) (hk1 : k1 = fN a1 % (z + 1)) (hk2 : k2 = fN a2 % (z - k1 + 1)) (ht : Bt t) : CtI l G yX3_feed cX3_feed 6 .boolean 1 22 0 0 [.ref mo, .int (a1), .int (a2)] [oM mo [.ref mou, .ref mtx, .int (nI (z)), .ref mms, .int (nI (n)), .ref mwa, .ref mva, .ref mra], aB G mms 16384 (g), aB G mtx 1024 (t)] sz (fun r (_ : Unit) => r = fedR n k2) (fun _ => [oM mo [.ref mou, .ref mtx, .int (nI (z)), .ref mms, .int (nI (fedN n k2)), .ref mwa, .ref mva, .ref mra], aB G mms 16384 (feedT g n k1 k2 t), aB G mtx 1024 (t)]) := by
  have h1z : k1 ≤ z := by
    have := Nat.mod_lt (fN a1) (show 0 < z + 1 by omega)
    omega
  have h2z : k1 + k2 ≤ z := by
    have := Nat.mod_lt (fN a2) (show 0 < z - k1 + 1 by omega)
    omega
  refine entI "SmDigestDeskModel" rfl (by decide +kernel) (Nat.le_of_ble_eq_true rfl) ?_
  intro p e s m below meth c A ls hx hb hr hk hml hsz C h hl
  have hl : lv_has ls 6 [(0, .ref mo), (1, .int (a1)), (2, .int (a2))] := hl
  refine lv_aload_n hx hb dX3_feed_0 rfl (lv_at hl 0 rfl) ?_
  refine lv_iload_n hx hb dX3_feed_1 rfl (lv_at hl 1 rfl) ?_
  refine kVp (Cn := "SmDigestDeskModel") (rest := []) (na := 1) hx hb hml C h (c_X3_from l G mo mou mtx mms mwa mva mra n z _ a1 hz) (lw_V q287 q289 qs9 q20 q290) (by decide +kernel) rfl ⟨Nat.le_of_ble_eq_true rfl, Nat.le_of_ble_eq_true rfl⟩ 0 rfl rfl rfl [0] (by decide) rfl hl.1 rfl (Nat.le_of_ble_eq_true rfl) ⟨Nat.le_of_ble_eq_true rfl, Nat.le_of_ble_eq_true rfl⟩ dX3_feed_2 (fun r_5 hp => ?_)
  obtain rfl : r_5 = nI (k1) := by rw [hk1]; exact hp
  refine lv_istore_n (lv' := [(3, .int (nI (k1))), (0, .ref mo), (1, .int (a1)), (2, .int (a2))]) hx hb dX3_feed_5 rfl hl (by decide) rfl (fun ls hl => ?_)
  refine lv_aload_n hx hb dX3_feed_6 rfl (lv_at hl 1 rfl) ?_
  refine lv_iload_n hx hb dX3_feed_7 rfl (lv_at hl 0 rfl) ?_
  refine lv_iload_n hx hb dX3_feed_8 rfl (lv_at hl 3 rfl) ?_
  refine kVp (Cn := "SmDigestDeskModel") (rest := []) (na := 2) hx hb hml C h (c_X3_count l G mo mou mtx mms mwa mva mra n z k1 _ a2 hz h1z) (lw_V q300 q302 qs10 q20 q303) (by decide +kernel) rfl ⟨Nat.le_of_ble_eq_true rfl, Nat.le_of_ble_eq_true rfl⟩ 0 rfl rfl rfl [0] (by decide) rfl hl.1 rfl (Nat.le_of_ble_eq_true rfl) ⟨Nat.le_of_ble_eq_true rfl, Nat.le_of_ble_eq_true rfl⟩ dX3_feed_9 (fun r_12 hp => ?_)
  obtain rfl : r_12 = nI (k2) := by rw [hk2]; exact hp
  refine lv_istore (lv' := [(4, .int (nI (k2))), (3, .int (nI (k1))), (0, .ref mo), (1, .int (a1)), (2, .int (a2))]) hx hb dX3_feed_12 hl (by decide) rfl (fun ls hl => ?_)
  refine lv_aload_n hx hb dX3_feed_14 rfl (lv_at hl 2 rfl) ?_
  refine g_get hx hb C h (ci := 2) in_X3 rfl 0 rfl 4 (by decide) q258 rfl rfl dX3_feed_15 ?_
  refine lv_iload hx hb dX3_feed_18 (lv_at hl 0 rfl) ?_
  refine lv_iadd hx hb dX3_feed_20 ?_
  refine tp_i (y := nI (n + k2)) (nI_add (n) (k2)) ?_
  refine lv_sipush (v := nI (16384)) hx hb dX3_feed_21 (by decide) ?_
  refine lv_icmp_le (tgt := 29) hx hb dX3_feed_24 (by decide) (fun c_1 => ?_) (fun c_1 => ?_)
  · skip
    have h8 : n + k2 ≤ 16384 := (nI_leI (a := n + k2) (b := 16384) (by omega) (by decide)).mp c_1
    refine lv_iconst (v := nI (0)) hx hb dX3_feed_29 (by decide) ?_
    refine lv_istore (lv' := [(5, .int (nI (0))), (4, .int (nI (k2))), (3, .int (nI (k1))), (0, .ref mo), (1, .int (a1)), (2, .int (a2))]) hx hb dX3_feed_30 hl (by decide) rfl (fun ls hl => ?_)
    refine lp_X3_feed mo mou mtx mms mwa mva mra n z k1 k2 g t hz h8 h2z ht hx hb hml C (fun H locs ls h hl => ?_) k2 0 _ _ ls (by omega) h (lv_sub hl [3, 2, 1, 0] rfl)
    refine lv_aload_n hx hb dX3_feed_66 rfl (lv_at hl 0 rfl) ?_
    refine lv_dup hx hb dX3_feed_67 rfl ?_
    refine g_get hx hb C h (ci := 2) in_X3 rfl 0 rfl 4 (by decide) q258 rfl rfl dX3_feed_68 ?_
    refine lv_iload hx hb dX3_feed_71 (lv_at hl 2 rfl) ?_
    refine lv_iadd hx hb dX3_feed_73 ?_
    refine tp_i (y := nI (n + k2)) (nI_add (n) (k2)) ?_
    refine g_put hx hb C h (ci := 2) in_X3 tyX3 tyX3_ok nmX3 rfl 0 rfl 4 (by decide) q258 rfl rfl rfl rfl (Nat.le_of_ble_eq_true rfl) dX3_feed_74 (fun H locs h => ?_)
    have h : HS G A s _ _ [oM mo [.ref mou, .ref mtx, .int (nI (z)), .ref mms, .int (nI (n + k2)), .ref mwa, .ref mva, .ref mra], aB G mms 16384 (upk g n (fun i => t (k1 + i)) k2), aB G mtx 1024 (t)] := h
    refine lv_iconst (v := 1) hx hb dX3_feed_77 (by decide) ?_
    have e0 : feedT g n k1 k2 t = upk g n (fun i => t (k1 + i)) k2 := if_pos h8
    have e1 : fedN n k2 = n + k2 := if_pos h8
    have h := h.eq [oM mo [.ref mou, .ref mtx, .int (nI (z)), .ref mms, .int (nI (fedN n k2)), .ref mwa, .ref mva, .ref mra], aB G mms 16384 (feedT g n k1 k2 t), aB G mtx 1024 (t)] (by rw [e0, e1])
    exact retI hx hb hr hk (rfl) () h ((if_pos h8).symm) dX3_feed_78
  · skip
    have h8 : ¬ n + k2 ≤ 16384 := fun q => c_1 ((nI_leI (a := n + k2) (b := 16384) (by omega) (by decide)).mpr q)
    refine lv_iconst (v := 0) hx hb dX3_feed_27 (by decide) ?_
    have e0 : feedT g n k1 k2 t = g := if_neg h8
    have e1 : fedN n k2 = n := if_neg h8
    have h := h.eq [oM mo [.ref mou, .ref mtx, .int (nI (z)), .ref mms, .int (nI (fedN n k2)), .ref mwa, .ref mva, .ref mra], aB G mms 16384 (feedT g n k1 k2 t), aB G mtx 1024 (t)] (by rw [e0, e1])
    exact retI hx hb hr hk (rfl) () h ((if_neg h8).symm) dX3_feed_28
set_option maxHeartbeats 4000000 in
theorem c_X3_one (l : Launch) (G : GG) (mo mou mtx mms mwa mva mra : Nat) (n z sz : Nat) (a1 : Int32) (g : Nat → Int32) (hn : n ≤ 16384) : CtI l G yX3_one cX3_one 2 .boolean 0 0 0 0 [.ref mo, .int (a1)] [oM mo [.ref mou, .ref mtx, .int (nI (z)), .ref mms, .int (nI (n)), .ref mwa, .ref mva, .ref mra], aB G mms 16384 (g)] sz (fun r (_ : Unit) => r = fedR n 1) (fun _ => [oM mo [.ref mou, .ref mtx, .int (nI (z)), .ref mms, .int (nI (fedN n 1)), .ref mwa, .ref mva, .ref mra], aB G mms 16384 (oneT g n (a1.toInt8.toInt32))]) := by
  refine entI "SmDigestDeskModel" rfl (by decide +kernel) (Nat.le_of_ble_eq_true rfl) ?_
  intro p e s m below meth c A ls hx hb hr hk hml hsz C h hl
  have hl : lv_has ls 2 [(0, .ref mo), (1, .int (a1))] := hl
  refine lv_aload_n hx hb dX3_one_0 rfl (lv_at hl 0 rfl) ?_
  refine g_get hx hb C h (ci := 2) in_X3 rfl 0 rfl 4 (by decide) q258 rfl rfl dX3_one_1 ?_
  refine lv_sipush (v := nI (16384)) hx hb dX3_one_4 (by decide) ?_
  refine lv_icmp_lt (tgt := 12) hx hb dX3_one_7 (by decide) (fun c_1 => ?_) (fun c_1 => ?_)
  · skip
    have h8 : n + 1 ≤ 16384 := (nI_ltI (a := n) (b := 16384) (by omega) (by decide)).mp c_1
    refine lv_aload_n hx hb dX3_one_12 rfl (lv_at hl 0 rfl) ?_
    refine g_get hx hb C h (ci := 2) in_X3 rfl 0 rfl 3 (by decide) q257 rfl rfl dX3_one_13 ?_
    refine lv_aload_n hx hb dX3_one_16 rfl (lv_at hl 0 rfl) ?_
    refine g_get hx hb C h (ci := 2) in_X3 rfl 0 rfl 4 (by decide) q258 rfl rfl dX3_one_17 ?_
    refine lv_iload_n hx hb dX3_one_20 rfl (lv_at hl 1 rfl) ?_
    refine lv_i2b (v := (a1).toInt8.toInt32) hx hb dX3_one_21 rfl ?_
    refine g_bst (j := n) (v := (a1).toInt8.toInt32) hx hb C h 1 rfl (by omega) (by decide) (pk_vb _) dX3_one_22 (fun H locs h => ?_)
    have h : HS G A s _ _ [oM mo [.ref mou, .ref mtx, .int (nI (z)), .ref mms, .int (nI (n)), .ref mwa, .ref mva, .ref mra], aB G mms 16384 (upd g (n) ((a1).toInt8.toInt32))] := h
    refine lv_aload_n hx hb dX3_one_23 rfl (lv_at hl 0 rfl) ?_
    refine lv_dup hx hb dX3_one_24 rfl ?_
    refine g_get hx hb C h (ci := 2) in_X3 rfl 0 rfl 4 (by decide) q258 rfl rfl dX3_one_25 ?_
    refine lv_iconst (v := nI (1)) hx hb dX3_one_28 (by decide) ?_
    refine lv_iadd hx hb dX3_one_29 ?_
    refine tp_i (y := nI (n + 1)) (nI_add (n) (1)) ?_
    refine g_put hx hb C h (ci := 2) in_X3 tyX3 tyX3_ok nmX3 rfl 0 rfl 4 (by decide) q258 rfl rfl rfl rfl (Nat.le_of_ble_eq_true rfl) dX3_one_30 (fun H locs h => ?_)
    have h : HS G A s _ _ [oM mo [.ref mou, .ref mtx, .int (nI (z)), .ref mms, .int (nI (n + 1)), .ref mwa, .ref mva, .ref mra], aB G mms 16384 (upd g (n) ((a1).toInt8.toInt32))] := h
    refine lv_iconst (v := 1) hx hb dX3_one_33 (by decide) ?_
    have e0 : oneT g n (a1.toInt8.toInt32) = upd g n (a1.toInt8.toInt32) := if_pos h8
    have e1 : fedN n 1 = n + 1 := if_pos h8
    have h := h.eq [oM mo [.ref mou, .ref mtx, .int (nI (z)), .ref mms, .int (nI (fedN n 1)), .ref mwa, .ref mva, .ref mra], aB G mms 16384 (oneT g n (a1.toInt8.toInt32))] (by rw [e0, e1])
    exact retI hx hb hr hk (rfl) () h ((if_pos h8).symm) dX3_one_34
  · skip
    have h8 : ¬ n + 1 ≤ 16384 := fun q => c_1 ((nI_ltI (a := n) (b := 16384) (by omega) (by decide)).mpr q)
    refine lv_iconst (v := 0) hx hb dX3_one_10 (by decide) ?_
    have e0 : oneT g n (a1.toInt8.toInt32) = g := if_neg h8
    have e1 : fedN n 1 = n := if_neg h8
    have h := h.eq [oM mo [.ref mou, .ref mtx, .int (nI (z)), .ref mms, .int (nI (fedN n 1)), .ref mwa, .ref mva, .ref mra], aB G mms 16384 (oneT g n (a1.toInt8.toInt32))] (by rw [e0, e1])
    exact retI hx hb hr hk (rfl) () h ((if_neg h8).symm) dX3_one_11
set_option maxHeartbeats 4000000 in
theorem c_X3_turned (l : Launch) (G : GG) (k sz : Nat) (x : Int32) (hk6 : k < 64) : CtP l G yX3_turned cX3_turned 3 .int 0 0 [.int (x), .int (nI (k))] [] sz (fun r => r = rot k x) := by
  refine entP "SmDigestDeskModel" rfl (by decide +kernel) (Nat.le_of_ble_eq_true rfl) ?_
  intro p e s m below meth c A ls hx hb hr hk hml hsz C h hl
  have hl : lv_has ls 3 [(0, .int (x)), (1, .int (nI (k)))] := hl
  refine lv_iload_n hx hb dX3_turned_0 rfl (lv_at hl 1 rfl) ?_
  refine lv_bipush (v := nI (32)) hx hb dX3_turned_1 (by decide) ?_
  refine lv_irem hx hb dX3_turned_3 (nI_ne0 (n := 32) (by omega) (by omega)) ?_
  refine tp_i (y := nI (k % 32)) (pk_rem (a := k) (d := 32) (by omega) (by omega) (by omega)) ?_
  refine lv_istore_n (lv' := [(2, .int (nI (k % 32))), (0, .int (x)), (1, .int (nI (k)))]) hx hb dX3_turned_4 rfl hl (by decide) rfl (fun ls hl => ?_)
  refine lv_iload_n hx hb dX3_turned_5 rfl (lv_at hl 0 rfl) ?_
  refine lv_if_ne (tgt := 13) hx hb dX3_turned_6 (by decide) (fun c_1 => ?_) (fun c_1 => ?_)
  · skip
    have h0 : ¬ k % 32 = 0 := fun q => c_1 (by rw [q]; rfl)
    refine lv_iload_n hx hb dX3_turned_13 rfl (lv_at hl 1 rfl) ?_
    refine lv_iload_n hx hb dX3_turned_14 rfl (lv_at hl 0 rfl) ?_
    refine lv_ishl hx hb dX3_turned_15 ?_
    refine lv_iload_n hx hb dX3_turned_16 rfl (lv_at hl 1 rfl) ?_
    refine lv_bipush (v := nI (32)) hx hb dX3_turned_17 (by decide) ?_
    refine lv_iload_n hx hb dX3_turned_19 rfl (lv_at hl 0 rfl) ?_
    refine lv_isub hx hb dX3_turned_20 ?_
    refine tp_i (y := nI (32 - (k % 32))) (pk_sub (a := 32) (b := k % 32) (by omega)) ?_
    refine lv_iushr (v := ((x).toUInt32 >>> (Int32.toUInt32 (nI (32 - (k % 32))) &&& Int32.toUInt32 31)).toInt32) hx hb dX3_turned_21 rfl ?_
    refine lv_ior hx hb dX3_turned_22 ?_
    exact retP hx hb hr hk (rfl) ((show _ = rl (nI (k % 32)) (nI (32 - k % 32)) x from rfl).trans (if_neg h0).symm) dX3_turned_23
  · skip
    have h0 : k % 32 = 0 := (nI_eq (a := k % 32) (b := 0) (by omega) (by decide)).mp c_1
    refine lv_iload_n hx hb dX3_turned_9 rfl (lv_at hl 1 rfl) ?_
    refine lv_goto (tgt := 23) hx hb dX3_turned_10 (by decide) ?_
    exact retP hx hb hr hk (rfl) ((if_pos h0).symm) dX3_turned_23
set_option maxHeartbeats 4000000 in
theorem c_X3_p0 (l : Launch) (G : GG) (sz : Nat) (x : Int32) : CtP l G yX3_p0 cX3_p0 1 .int 1 22 [.int (x)] [] sz (fun r => r = sP0 x) := by
  refine entP "SmDigestDeskModel" rfl (by decide +kernel) (Nat.le_of_ble_eq_true rfl) ?_
  intro p e s m below meth c A ls hx hb hr hk hml hsz C h hl
  have hl : lv_has ls 1 [(0, .int (x))] := hl
  refine lv_iload_n hx hb dX3_p0_0 rfl (lv_at hl 0 rfl) ?_
  refine lv_iload_n hx hb dX3_p0_1 rfl (lv_at hl 0 rfl) ?_
  refine lv_bipush (v := nI (9)) hx hb dX3_p0_2 (by decide) ?_
  refine kSp (rest := [.int (x)]) (na := 2) hx hb hml C h (c_X3_turned l G 9 _ (x) (by decide)) (lw_S q333 q334 q20 q335) (by decide +kernel) rfl ⟨Nat.le_of_ble_eq_true rfl, Nat.le_of_ble_eq_true rfl⟩ [] (by decide) rfl hl.1 rfl (Nat.le_of_ble_eq_true rfl) ⟨Nat.le_of_ble_eq_true rfl, Nat.le_of_ble_eq_true rfl⟩ dX3_p0_4 (fun r_7 hp => ?_)
  obtain rfl : r_7 = rl 9 23 x := hp.trans (rot_9 _)
  refine lv_ixor hx hb dX3_p0_7 ?_
  refine lv_iload_n hx hb dX3_p0_8 rfl (lv_at hl 0 rfl) ?_
  refine lv_bipush (v := nI (17)) hx hb dX3_p0_9 (by decide) ?_
  refine kSp (rest := [.int (x ^^^ (rl 9 23 x))]) (na := 2) hx hb hml C h (c_X3_turned l G 17 _ (x) (by decide)) (lw_S q333 q334 q20 q335) (by decide +kernel) rfl ⟨Nat.le_of_ble_eq_true rfl, Nat.le_of_ble_eq_true rfl⟩ [] (by decide) rfl hl.1 rfl (Nat.le_of_ble_eq_true rfl) ⟨Nat.le_of_ble_eq_true rfl, Nat.le_of_ble_eq_true rfl⟩ dX3_p0_11 (fun r_14 hp => ?_)
  obtain rfl : r_14 = rl 17 15 x := hp.trans (rot_17 _)
  refine lv_ixor hx hb dX3_p0_14 ?_
  exact retP hx hb hr hk (rfl) (rfl) dX3_p0_15
set_option maxHeartbeats 4000000 in
theorem c_X3_p1 (l : Launch) (G : GG) (sz : Nat) (x : Int32) : CtP l G yX3_p1 cX3_p1 1 .int 1 22 [.int (x)] [] sz (fun r => r = sP1 x) := by
  refine entP "SmDigestDeskModel" rfl (by decide +kernel) (Nat.le_of_ble_eq_true rfl) ?_
  intro p e s m below meth c A ls hx hb hr hk hml hsz C h hl
  have hl : lv_has ls 1 [(0, .int (x))] := hl
  refine lv_iload_n hx hb dX3_p1_0 rfl (lv_at hl 0 rfl) ?_
  refine lv_iload_n hx hb dX3_p1_1 rfl (lv_at hl 0 rfl) ?_
  refine lv_bipush (v := nI (15)) hx hb dX3_p1_2 (by decide) ?_
  refine kSp (rest := [.int (x)]) (na := 2) hx hb hml C h (c_X3_turned l G 15 _ (x) (by decide)) (lw_S q333 q334 q20 q335) (by decide +kernel) rfl ⟨Nat.le_of_ble_eq_true rfl, Nat.le_of_ble_eq_true rfl⟩ [] (by decide) rfl hl.1 rfl (Nat.le_of_ble_eq_true rfl) ⟨Nat.le_of_ble_eq_true rfl, Nat.le_of_ble_eq_true rfl⟩ dX3_p1_4 (fun r_7 hp => ?_)
  obtain rfl : r_7 = rl 15 17 x := hp.trans (rot_15 _)
  refine lv_ixor hx hb dX3_p1_7 ?_
  refine lv_iload_n hx hb dX3_p1_8 rfl (lv_at hl 0 rfl) ?_
  refine lv_bipush (v := nI (23)) hx hb dX3_p1_9 (by decide) ?_
  refine kSp (rest := [.int (x ^^^ (rl 15 17 x))]) (na := 2) hx hb hml C h (c_X3_turned l G 23 _ (x) (by decide)) (lw_S q333 q334 q20 q335) (by decide +kernel) rfl ⟨Nat.le_of_ble_eq_true rfl, Nat.le_of_ble_eq_true rfl⟩ [] (by decide) rfl hl.1 rfl (Nat.le_of_ble_eq_true rfl) ⟨Nat.le_of_ble_eq_true rfl, Nat.le_of_ble_eq_true rfl⟩ dX3_p1_11 (fun r_14 hp => ?_)
  obtain rfl : r_14 = rl 23 9 x := hp.trans (rot_23 _)
  refine lv_ixor hx hb dX3_p1_14 ?_
  exact retP hx hb hr hk (rfl) (rfl) dX3_p1_15
set_option maxHeartbeats 4000000 in
theorem c_X3_first (l : Launch) (G : GG) (k sz : Nat) (hk8 : k < 8) : CtP l G yX3_first cX3_first 1 .int 0 0 [.int (nI (k))] [] sz (fun r => r = ivf k) := by
  refine entP "SmDigestDeskModel" rfl (by decide +kernel) (Nat.le_of_ble_eq_true rfl) ?_
  intro p e s m below meth c A ls hx hb hr hk hml hsz C h hl
  have hl : lv_has ls 1 [(0, .int (nI (k)))] := hl
  match k, hk8 with
  | 0, _ =>
    refine lv_iload_n hx hb dX3_first_0 rfl (lv_at hl 0 rfl) ?_
    refine lv_tableIn (off := 43) (tgt := 44) hx hb dX3_first_1 (by decide +kernel) (by decide +kernel) (by decide +kernel) (by decide) ?_
    refine lv_ldc (v := 1937774191) hx hb C.2.2.2.1 (C.2.2.2.2 _ q315) dX3_first_44 ?_
    exact retP hx hb hr hk (rfl) (rfl) dX3_first_46
  | 1, _ =>
    refine lv_iload_n hx hb dX3_first_0 rfl (lv_at hl 0 rfl) ?_
    refine lv_tableIn (off := 46) (tgt := 47) hx hb dX3_first_1 (by decide +kernel) (by decide +kernel) (by decide +kernel) (by decide) ?_
    refine lv_ldc (v := 1226093241) hx hb C.2.2.2.1 (C.2.2.2.2 _ q316) dX3_first_47 ?_
    exact retP hx hb hr hk (rfl) (rfl) dX3_first_49
  | 2, _ =>
    refine lv_iload_n hx hb dX3_first_0 rfl (lv_at hl 0 rfl) ?_
    refine lv_tableIn (off := 49) (tgt := 50) hx hb dX3_first_1 (by decide +kernel) (by decide +kernel) (by decide +kernel) (by decide) ?_
    refine lv_ldc (v := 388252375) hx hb C.2.2.2.1 (C.2.2.2.2 _ q317) dX3_first_50 ?_
    exact retP hx hb hr hk (rfl) (rfl) dX3_first_52
  | 3, _ =>
    refine lv_iload_n hx hb dX3_first_0 rfl (lv_at hl 0 rfl) ?_
    refine lv_tableIn (off := 52) (tgt := 53) hx hb dX3_first_1 (by decide +kernel) (by decide +kernel) (by decide +kernel) (by decide) ?_
    refine lv_ldc (v := -628488704) hx hb C.2.2.2.1 (C.2.2.2.2 _ q318) dX3_first_53 ?_
    exact retP hx hb hr hk (rfl) (rfl) dX3_first_55
  | 4, _ =>
    refine lv_iload_n hx hb dX3_first_0 rfl (lv_at hl 0 rfl) ?_
    refine lv_tableIn (off := 55) (tgt := 56) hx hb dX3_first_1 (by decide +kernel) (by decide +kernel) (by decide +kernel) (by decide) ?_
    refine lv_ldc (v := -1452330820) hx hb C.2.2.2.1 (C.2.2.2.2 _ q319) dX3_first_56 ?_
    exact retP hx hb hr hk (rfl) (rfl) dX3_first_58
  | 5, _ =>
    refine lv_iload_n hx hb dX3_first_0 rfl (lv_at hl 0 rfl) ?_
    refine lv_tableIn (off := 58) (tgt := 59) hx hb dX3_first_1 (by decide +kernel) (by decide +kernel) (by decide +kernel) (by decide) ?_
    refine lv_ldc (v := 372324522) hx hb C.2.2.2.1 (C.2.2.2.2 _ q320) dX3_first_59 ?_
    exact retP hx hb hr hk (rfl) (rfl) dX3_first_61
  | 6, _ =>
    refine lv_iload_n hx hb dX3_first_0 rfl (lv_at hl 0 rfl) ?_
    refine lv_tableIn (off := 61) (tgt := 62) hx hb dX3_first_1 (by decide +kernel) (by decide +kernel) (by decide +kernel) (by decide) ?_
    refine lv_ldc (v := -477237683) hx hb C.2.2.2.1 (C.2.2.2.2 _ q321) dX3_first_62 ?_
    exact retP hx hb hr hk (rfl) (rfl) dX3_first_64
  | 7, _ =>
    refine lv_iload_n hx hb dX3_first_0 rfl (lv_at hl 0 rfl) ?_
    refine lv_tableOut (tgt := 65) hx hb dX3_first_1 (Or.inr (by decide +kernel)) (by decide) ?_
    refine lv_ldc (v := -1325724082) hx hb C.2.2.2.1 (C.2.2.2.2 _ q322) dX3_first_65 ?_
    exact retP hx hb hr hk (rfl) (rfl) dX3_first_67
  | k + 8, hk => exact absurd hk (by omega)
set_option maxHeartbeats 4000000 in
theorem c_X3_padded (l : Launch) (G : GG) (mo mou mtx mms mwa mva mra : Nat) (n z pp al sz : Nat) (g : Nat → Int32) (hn : n ≤ 16384) (hp : pp < al) (hal : al < 2 ^ 20) : CtP l G yX3_padded cX3_padded 4 .int 0 0 [.ref mo, .int (nI (pp)), .int (nI (al))] [oM mo [.ref mou, .ref mtx, .int (nI (z)), .ref mms, .int (nI (n)), .ref mwa, .ref mva, .ref mra], aB G mms 16384 (g)] sz (fun r => r = nI (pdN g n al pp)) := by
  refine entP "SmDigestDeskModel" rfl (by decide +kernel) (Nat.le_of_ble_eq_true rfl) ?_
  intro p e s m below meth c A ls hx hb hr hk hml hsz C h hl
  have hl : lv_has ls 4 [(0, .ref mo), (1, .int (nI (pp))), (2, .int (nI (al)))] := hl
  refine lv_iload_n hx hb dX3_padded_0 rfl (lv_at hl 1 rfl) ?_
  refine lv_aload_n hx hb dX3_padded_1 rfl (lv_at hl 0 rfl) ?_
  refine g_get hx hb C h (ci := 2) in_X3 rfl 0 rfl 4 (by decide) q258 rfl rfl dX3_padded_2 ?_
  refine lv_icmp_ge (tgt := 19) hx hb dX3_padded_5 (by decide) (fun c_1 => ?_) (fun c_1 => ?_)
  · skip
    have h1 : ¬ pp < n := by
      have := (nI_leI (a := n) (b := pp) (by omega) (by omega)).mp c_1
      omega
    refine lv_iload_n hx hb dX3_padded_19 rfl (lv_at hl 1 rfl) ?_
    refine lv_aload_n hx hb dX3_padded_20 rfl (lv_at hl 0 rfl) ?_
    refine g_get hx hb C h (ci := 2) in_X3 rfl 0 rfl 4 (by decide) q258 rfl rfl dX3_padded_21 ?_
    refine lv_icmp_ne (tgt := 31) hx hb dX3_padded_24 (by decide) (fun c_2 => ?_) (fun c_2 => ?_)
    · skip
      have h2 : ¬ pp = n := fun q => c_2 (by rw [q])
      refine lv_iload_n hx hb dX3_padded_31 rfl (lv_at hl 2 rfl) ?_
      refine lv_iconst (v := nI (1)) hx hb dX3_padded_32 (by decide) ?_
      refine lv_isub hx hb dX3_padded_33 ?_
      refine tp_i (y := nI (al - 1)) (pk_sub (a := al) (b := 1) (by omega)) ?_
      refine lv_iload_n hx hb dX3_padded_34 rfl (lv_at hl 1 rfl) ?_
      refine lv_isub hx hb dX3_padded_35 ?_
      refine tp_i (y := nI (al - 1 - pp)) (pk_sub (a := al - 1) (b := pp) (by omega)) ?_
      refine lv_istore_n (lv' := [(3, .int (nI (al - 1 - pp))), (0, .ref mo), (1, .int (nI (pp))), (2, .int (nI (al)))]) hx hb dX3_padded_36 rfl hl (by decide) rfl (fun ls hl => ?_)
      refine lv_iload_n hx hb dX3_padded_37 rfl (lv_at hl 0 rfl) ?_
      refine lv_bipush (v := nI (8)) hx hb dX3_padded_38 (by decide) ?_
      refine lv_icmp_ge (tgt := 65) hx hb dX3_padded_40 (by decide) (fun c_3 => ?_) (fun c_3 => ?_)
      · skip
        have h3 : ¬ al - 1 - pp < 8 := by
          have := (nI_leI (a := 8) (b := al - 1 - pp) (by decide) (by omega)).mp c_3
          omega
        refine lv_iconst (v := 0) hx hb dX3_padded_65 (by decide) ?_
        exact retP hx hb hr hk (rfl) (by unfold pdN; rw [if_neg h1, if_neg h2, if_neg h3]; rfl) dX3_padded_66
      · skip
        have h3 : al - 1 - pp < 8 := by
          have : ¬ 8 ≤ al - 1 - pp := fun q => c_3 ((nI_leI (a := 8) (b := al - 1 - pp) (by decide) (by omega)).mpr q)
          omega
        refine lv_ldc2 (v := 8) hx hb C.2.2.2.1 (C.2.2.2.2 _ q331) dX3_padded_43 ?_
        refine lv_aload_n hx hb dX3_padded_46 rfl (lv_at hl 1 rfl) ?_
        refine g_get hx hb C h (ci := 2) in_X3 rfl 0 rfl 4 (by decide) q258 rfl rfl dX3_padded_47 ?_
        refine lv_i2l (v := ((nI (n))).toInt64) hx hb dX3_padded_50 rfl ?_
        refine lv_lmul hx hb dX3_padded_51 ?_
        refine tp_l (y := lN (8 * n)) (by rw [nI_l (by omega)]; exact lN_mul 8 n) ?_
        refine lv_bipush (v := nI (8)) hx hb dX3_padded_52 (by decide) ?_
        refine lv_iload_n hx hb dX3_padded_54 rfl (lv_at hl 0 rfl) ?_
        refine lv_imul hx hb dX3_padded_55 ?_
        refine tp_i (y := nI (8 * (al - 1 - pp))) (pk_mul (8) (al - 1 - pp)) ?_
        refine lv_lushr (v := (((lN (8 * n))).toUInt64 >>> (((nI (8 * (al - 1 - pp)) : Int32)).toInt64.toUInt64 &&& Int64.toUInt64 63)).toInt64) hx hb dX3_padded_56 rfl ?_
        refine tp_l (y := lN (8 * n / 2 ^ (8 * (al - 1 - pp)))) (wb_shr (by omega) (by omega)) ?_
        refine lv_ldc2 (v := 255) hx hb C.2.2.2.1 (C.2.2.2.2 _ q332) dX3_padded_57 ?_
        refine lv_land hx hb dX3_padded_60 ?_
        refine tp_l (y := lN (8 * n / 2 ^ (8 * (al - 1 - pp)) % 256)) (wb_mask (k := 8) (Nat.lt_of_le_of_lt (Nat.div_le_self _ _) (by omega)) (by decide)) ?_
        refine lv_l2i (v := ((lN (8 * n / 2 ^ (8 * (al - 1 - pp)) % 256))).toInt32) hx hb dX3_padded_61 rfl ?_
        refine tp_i (y := nI (8 * n / 2 ^ (8 * (al - 1 - pp)) % 256)) (lN_i _) ?_
        refine lv_goto (tgt := 66) hx hb dX3_padded_62 (by decide) ?_
        exact retP hx hb hr hk (rfl) (by unfold pdN; rw [if_neg h1, if_neg h2, if_pos h3]) dX3_padded_66
    · skip
      have h2 : pp = n := (nI_eq (a := pp) (b := n) (by omega) (by omega)).mp c_2
      refine lv_sipush (v := 128) hx hb dX3_padded_27 (by decide) ?_
      exact retP hx hb hr hk (rfl) (by unfold pdN; rw [if_neg h1, if_pos h2]; rfl) dX3_padded_30
  · skip
    have h1 : pp < n := by
      have : ¬ n ≤ pp := fun q => c_1 ((nI_leI (a := n) (b := pp) (by omega) (by omega)).mpr q)
      omega
    refine lv_aload_n hx hb dX3_padded_8 rfl (lv_at hl 0 rfl) ?_
    refine g_get hx hb C h (ci := 2) in_X3 rfl 0 rfl 3 (by decide) q257 rfl rfl dX3_padded_9 ?_
    refine lv_iload_n hx hb dX3_padded_12 rfl (lv_at hl 1 rfl) ?_
    refine g_bld (j := pp) hx hb C h 1 rfl (by omega) (by decide) dX3_padded_13 ?_
    refine lv_sipush (v := 255) hx hb dX3_padded_14 (by decide) ?_
    refine lv_iand hx hb dX3_padded_17 ?_
    refine tp_i (y := nI (bN (g pp))) (bN_and _) ?_
    exact retP hx hb hr hk (rfl) (by unfold pdN; rw [if_pos h1]) dX3_padded_18
set_option maxHeartbeats 4000000 in
/-- a round: the eight words of r -/
theorem c_X3_round (l : Launch) (G : GG) (mo mou mtx mms mwa mva mra : Nat) (n z j sz : Nat) (w rr : Nat → Int32) (hj : j < 64) : CtV l G yX3_round cX3_round 15 2 42 0 0 [.ref mo, .int (nI (j))] [oM mo [.ref mou, .ref mtx, .int (nI (z)), .ref mms, .int (nI (n)), .ref mwa, .ref mva, .ref mra], aI G mwa 68 (w), aI G mra 8 (rr)] sz (fun u : Nat → Int32 => v8 u = rnd w j (v8 rr)) (fun u => [oM mo [.ref mou, .ref mtx, .int (nI (z)), .ref mms, .int (nI (n)), .ref mwa, .ref mva, .ref mra], aI G mwa 68 (w), aI G mra 8 u]) := by
  refine entV "SmDigestDeskModel" rfl (by decide +kernel) (Nat.le_of_ble_eq_true rfl) ?_
  intro p e s m below meth c A ls hx hb hr hk hml hin hsz C h hl
  have hl : lv_has ls 15 [(0, .ref mo), (1, .int (nI (j)))] := hl
  by_cases hlt : j < 16
  · skip
    refine lv_aload_n hx hb dX3_round_0 rfl (lv_at hl 0 rfl) ?_
    refine g_get hx hb C h (ci := 2) in_X3 rfl 0 rfl 7 (by decide) q261 rfl rfl dX3_round_1 ?_
    refine lv_iconst (v := nI (0)) hx hb dX3_round_4 (by decide) ?_
    refine g_ild (j := 0) hx hb C h 2 rfl (by decide) (by decide) dX3_round_5 ?_
    refine lv_istore_n (lv' := [(2, .int (rr (0))), (0, .ref mo), (1, .int (nI (j)))]) hx hb dX3_round_6 rfl hl (by decide) rfl (fun ls hl => ?_)
    refine lv_aload_n hx hb dX3_round_7 rfl (lv_at hl 1 rfl) ?_
    refine g_get hx hb C h (ci := 2) in_X3 rfl 0 rfl 7 (by decide) q261 rfl rfl dX3_round_8 ?_
    refine lv_iconst (v := nI (1)) hx hb dX3_round_11 (by decide) ?_
    refine g_ild (j := 1) hx hb C h 2 rfl (by decide) (by decide) dX3_round_12 ?_
    refine lv_istore_n (lv' := [(3, .int (rr (1))), (2, .int (rr (0))), (0, .ref mo), (1, .int (nI (j)))]) hx hb dX3_round_13 rfl hl (by decide) rfl (fun ls hl => ?_)
    refine lv_aload_n hx hb dX3_round_14 rfl (lv_at hl 2 rfl) ?_
    refine g_get hx hb C h (ci := 2) in_X3 rfl 0 rfl 7 (by decide) q261 rfl rfl dX3_round_15 ?_
    refine lv_iconst (v := nI (2)) hx hb dX3_round_18 (by decide) ?_
    refine g_ild (j := 2) hx hb C h 2 rfl (by decide) (by decide) dX3_round_19 ?_
    refine lv_istore (lv' := [(4, .int (rr (2))), (3, .int (rr (1))), (2, .int (rr (0))), (0, .ref mo), (1, .int (nI (j)))]) hx hb dX3_round_20 hl (by decide) rfl (fun ls hl => ?_)
    refine lv_aload_n hx hb dX3_round_22 rfl (lv_at hl 3 rfl) ?_
    refine g_get hx hb C h (ci := 2) in_X3 rfl 0 rfl 7 (by decide) q261 rfl rfl dX3_round_23 ?_
    refine lv_iconst (v := nI (4)) hx hb dX3_round_26 (by decide) ?_
    refine g_ild (j := 4) hx hb C h 2 rfl (by decide) (by decide) dX3_round_27 ?_
    refine lv_istore (lv' := [(5, .int (rr (4))), (4, .int (rr (2))), (3, .int (rr (1))), (2, .int (rr (0))), (0, .ref mo), (1, .int (nI (j)))]) hx hb dX3_round_28 hl (by decide) rfl (fun ls hl => ?_)
    refine lv_aload_n hx hb dX3_round_30 rfl (lv_at hl 4 rfl) ?_
    refine g_get hx hb C h (ci := 2) in_X3 rfl 0 rfl 7 (by decide) q261 rfl rfl dX3_round_31 ?_
    refine lv_iconst (v := nI (5)) hx hb dX3_round_34 (by decide) ?_
    refine g_ild (j := 5) hx hb C h 2 rfl (by decide) (by decide) dX3_round_35 ?_
    refine lv_istore (lv' := [(6, .int (rr (5))), (5, .int (rr (4))), (4, .int (rr (2))), (3, .int (rr (1))), (2, .int (rr (0))), (0, .ref mo), (1, .int (nI (j)))]) hx hb dX3_round_36 hl (by decide) rfl (fun ls hl => ?_)
    refine lv_aload_n hx hb dX3_round_38 rfl (lv_at hl 5 rfl) ?_
    refine g_get hx hb C h (ci := 2) in_X3 rfl 0 rfl 7 (by decide) q261 rfl rfl dX3_round_39 ?_
    refine lv_bipush (v := nI (6)) hx hb dX3_round_42 (by decide) ?_
    refine g_ild (j := 6) hx hb C h 2 rfl (by decide) (by decide) dX3_round_44 ?_
    refine lv_istore (lv' := [(7, .int (rr (6))), (6, .int (rr (5))), (5, .int (rr (4))), (4, .int (rr (2))), (3, .int (rr (1))), (2, .int (rr (0))), (0, .ref mo), (1, .int (nI (j)))]) hx hb dX3_round_45 hl (by decide) rfl (fun ls hl => ?_)
    refine lv_iload_n hx hb dX3_round_47 rfl (lv_at hl 7 rfl) ?_
    refine lv_bipush (v := nI (16)) hx hb dX3_round_48 (by decide) ?_
    refine lv_icmp_ge (tgt := 58) hx hb dX3_round_50 (by decide) (fun c_ => absurd c_ (nI_ge (a := j) (b := 16) hlt (by decide))) (fun _ => ?_)
    refine lv_ldc (v := 2043430169) hx hb C.2.2.2.1 (C.2.2.2.2 _ q343) dX3_round_53 ?_
    refine lv_goto (tgt := 60) hx hb dX3_round_55 (by decide) ?_
    refine lv_iload_n hx hb dX3_round_60 rfl (lv_at hl 7 rfl) ?_
    refine kSp (rest := []) (na := 2) hx hb hml C h (c_X3_turned l G j _ (2043430169) hj) (lw_S q333 q334 q20 q335) (by decide +kernel) rfl ⟨Nat.le_of_ble_eq_true rfl, Nat.le_of_ble_eq_true rfl⟩ [] (by decide) rfl hl.1 rfl (Nat.le_of_ble_eq_true rfl) ⟨Nat.le_of_ble_eq_true rfl, Nat.le_of_ble_eq_true rfl⟩ dX3_round_61 (fun r_64 hp => ?_)
    obtain rfl : r_64 = sT j := hp.trans (by unfold sT; rw [if_pos hlt])
    refine lv_istore (lv' := [(8, .int (sT j)), (7, .int (rr (6))), (6, .int (rr (5))), (5, .int (rr (4))), (4, .int (rr (2))), (3, .int (rr (1))), (2, .int (rr (0))), (0, .ref mo), (1, .int (nI (j)))]) hx hb dX3_round_64 hl (by decide) rfl (fun ls hl => ?_)
    refine lv_iload_n hx hb dX3_round_66 rfl (lv_at hl 6 rfl) ?_
    refine lv_bipush (v := nI (12)) hx hb dX3_round_67 (by decide) ?_
    refine kSp (rest := []) (na := 2) hx hb hml C h (c_X3_turned l G 12 _ (rr (0)) (by decide)) (lw_S q333 q334 q20 q335) (by decide +kernel) rfl ⟨Nat.le_of_ble_eq_true rfl, Nat.le_of_ble_eq_true rfl⟩ [] (by decide) rfl hl.1 rfl (Nat.le_of_ble_eq_true rfl) ⟨Nat.le_of_ble_eq_true rfl, Nat.le_of_ble_eq_true rfl⟩ dX3_round_69 (fun r_72 hp => ?_)
    obtain rfl : r_72 = rl 12 20 (rr (0)) := hp.trans (rot_12 _)
    refine lv_iload hx hb dX3_round_72 (lv_at hl 3 rfl) ?_
    refine lv_iadd hx hb dX3_round_74 ?_
    refine lv_iload hx hb dX3_round_75 (lv_at hl 0 rfl) ?_
    refine lv_iadd hx hb dX3_round_77 ?_
    refine lv_bipush (v := nI (7)) hx hb dX3_round_78 (by decide) ?_
    refine kSp (rest := []) (na := 2) hx hb hml C h (c_X3_turned l G 7 _ ((rl 12 20 (rr (0)) + rr (4)) + sT j) (by decide)) (lw_S q333 q334 q20 q335) (by decide +kernel) rfl ⟨Nat.le_of_ble_eq_true rfl, Nat.le_of_ble_eq_true rfl⟩ [] (by decide) rfl hl.1 rfl (Nat.le_of_ble_eq_true rfl) ⟨Nat.le_of_ble_eq_true rfl, Nat.le_of_ble_eq_true rfl⟩ dX3_round_80 (fun r_83 hp => ?_)
    obtain rfl : r_83 = rl 7 25 ((rl 12 20 (rr (0)) + rr (4)) + sT j) := hp.trans (rot_7 _)
    refine lv_istore (lv' := [(9, .int (rl 7 25 ((rl 12 20 (rr (0)) + rr (4)) + sT j))), (8, .int (sT j)), (7, .int (rr (6))), (6, .int (rr (5))), (5, .int (rr (4))), (4, .int (rr (2))), (3, .int (rr (1))), (2, .int (rr (0))), (0, .ref mo), (1, .int (nI (j)))]) hx hb dX3_round_83 hl (by decide) rfl (fun ls hl => ?_)
    refine lv_iload hx hb dX3_round_85 (lv_at hl 0 rfl) ?_
    refine lv_iload_n hx hb dX3_round_87 rfl (lv_at hl 7 rfl) ?_
    refine lv_bipush (v := nI (12)) hx hb dX3_round_88 (by decide) ?_
    refine kSp (rest := [.int (rl 7 25 ((rl 12 20 (rr (0)) + rr (4)) + sT j))]) (na := 2) hx hb hml C h (c_X3_turned l G 12 _ (rr (0)) (by decide)) (lw_S q333 q334 q20 q335) (by decide +kernel) rfl ⟨Nat.le_of_ble_eq_true rfl, Nat.le_of_ble_eq_true rfl⟩ [] (by decide) rfl hl.1 rfl (Nat.le_of_ble_eq_true rfl) ⟨Nat.le_of_ble_eq_true rfl, Nat.le_of_ble_eq_true rfl⟩ dX3_round_90 (fun r_93 hp => ?_)
    obtain rfl : r_93 = rl 12 20 (rr (0)) := hp.trans (rot_12 _)
    refine lv_ixor hx hb dX3_round_93 ?_
    refine lv_istore (lv' := [(10, .int ((rl 7 25 ((rl 12 20 (rr (0)) + rr (4)) + sT j)) ^^^ (rl 12 20 (rr (0))))), (9, .int (rl 7 25 ((rl 12 20 (rr (0)) + rr (4)) + sT j))), (8, .int (sT j)), (7, .int (rr (6))), (6, .int (rr (5))), (5, .int (rr (4))), (4, .int (rr (2))), (3, .int (rr (1))), (2, .int (rr (0))), (0, .ref mo), (1, .int (nI (j)))]) hx hb dX3_round_94 hl (by decide) rfl (fun ls hl => ?_)
    refine lv_iload_n hx hb dX3_round_96 rfl (lv_at hl 10 rfl) ?_
    refine lv_bipush (v := nI (16)) hx hb dX3_round_97 (by decide) ?_
    refine lv_icmp_ge (tgt := 111) hx hb dX3_round_99 (by decide) (fun c_ => absurd c_ (nI_ge (a := j) (b := 16) hlt (by decide))) (fun _ => ?_)
    refine lv_iload_n hx hb dX3_round_102 rfl (lv_at hl 8 rfl) ?_
    refine lv_iload_n hx hb dX3_round_103 rfl (lv_at hl 7 rfl) ?_
    refine lv_ixor hx hb dX3_round_104 ?_
    refine lv_iload hx hb dX3_round_105 (lv_at hl 6 rfl) ?_
    refine lv_ixor hx hb dX3_round_107 ?_
    refine lv_goto (tgt := 124) hx hb dX3_round_108 (by decide) ?_
    refine tp_i (y := sFF j (rr (0)) (rr (1)) (rr (2))) ((if_pos hlt).symm) ?_
    refine lv_istore (lv' := [(11, .int (sFF j (rr (0)) (rr (1)) (rr (2)))), (10, .int ((rl 7 25 ((rl 12 20 (rr (0)) + rr (4)) + sT j)) ^^^ (rl 12 20 (rr (0))))), (9, .int (rl 7 25 ((rl 12 20 (rr (0)) + rr (4)) + sT j))), (8, .int (sT j)), (7, .int (rr (6))), (6, .int (rr (5))), (5, .int (rr (4))), (4, .int (rr (2))), (3, .int (rr (1))), (2, .int (rr (0))), (0, .ref mo), (1, .int (nI (j)))]) hx hb dX3_round_124 hl (by decide) rfl (fun ls hl => ?_)
    refine lv_iload_n hx hb dX3_round_126 rfl (lv_at hl 11 rfl) ?_
    refine lv_bipush (v := nI (16)) hx hb dX3_round_127 (by decide) ?_
    refine lv_icmp_ge (tgt := 143) hx hb dX3_round_129 (by decide) (fun c_ => absurd c_ (nI_ge (a := j) (b := 16) hlt (by decide))) (fun _ => ?_)
    refine lv_iload hx hb dX3_round_132 (lv_at hl 6 rfl) ?_
    refine lv_iload hx hb dX3_round_134 (lv_at hl 5 rfl) ?_
    refine lv_ixor hx hb dX3_round_136 ?_
    refine lv_iload hx hb dX3_round_137 (lv_at hl 4 rfl) ?_
    refine lv_ixor hx hb dX3_round_139 ?_
    refine lv_goto (tgt := 156) hx hb dX3_round_140 (by decide) ?_
    refine tp_i (y := sGG j (rr (4)) (rr (5)) (rr (6))) ((if_pos hlt).symm) ?_
    refine lv_istore (lv' := [(12, .int (sGG j (rr (4)) (rr (5)) (rr (6)))), (11, .int (sFF j (rr (0)) (rr (1)) (rr (2)))), (10, .int ((rl 7 25 ((rl 12 20 (rr (0)) + rr (4)) + sT j)) ^^^ (rl 12 20 (rr (0))))), (9, .int (rl 7 25 ((rl 12 20 (rr (0)) + rr (4)) + sT j))), (8, .int (sT j)), (7, .int (rr (6))), (6, .int (rr (5))), (5, .int (rr (4))), (4, .int (rr (2))), (3, .int (rr (1))), (2, .int (rr (0))), (0, .ref mo), (1, .int (nI (j)))]) hx hb dX3_round_156 hl (by decide) rfl (fun ls hl => ?_)
    refine lv_iload hx hb dX3_round_158 (lv_at hl 1 rfl) ?_
    refine lv_aload_n hx hb dX3_round_160 rfl (lv_at hl 11 rfl) ?_
    refine g_get hx hb C h (ci := 2) in_X3 rfl 0 rfl 7 (by decide) q261 rfl rfl dX3_round_161 ?_
    refine lv_iconst (v := nI (3)) hx hb dX3_round_164 (by decide) ?_
    refine g_ild (j := 3) hx hb C h 2 rfl (by decide) (by decide) dX3_round_165 ?_
    refine lv_iadd hx hb dX3_round_166 ?_
    refine lv_iload hx hb dX3_round_167 (lv_at hl 2 rfl) ?_
    refine lv_iadd hx hb dX3_round_169 ?_
    refine lv_aload_n hx hb dX3_round_170 rfl (lv_at hl 11 rfl) ?_
    refine g_get hx hb C h (ci := 2) in_X3 rfl 0 rfl 5 (by decide) q259 rfl rfl dX3_round_171 ?_
    refine lv_iload_n hx hb dX3_round_174 rfl (lv_at hl 12 rfl) ?_
    refine g_ild (j := j) hx hb C h 1 rfl (by omega) (by decide) dX3_round_175 ?_
    refine lv_aload_n hx hb dX3_round_176 rfl (lv_at hl 11 rfl) ?_
    refine g_get hx hb C h (ci := 2) in_X3 rfl 0 rfl 5 (by decide) q259 rfl rfl dX3_round_177 ?_
    refine lv_iload_n hx hb dX3_round_180 rfl (lv_at hl 12 rfl) ?_
    refine lv_iconst (v := nI (4)) hx hb dX3_round_181 (by decide) ?_
    refine lv_iadd hx hb dX3_round_182 ?_
    refine tp_i (y := nI (j + 4)) (nI_add (j) (4)) ?_
    refine g_ild (j := j + 4) hx hb C h 1 rfl (by omega) (by decide) dX3_round_183 ?_
    refine lv_ixor hx hb dX3_round_184 ?_
    refine lv_iadd hx hb dX3_round_185 ?_
    refine tp_i (y := rA w j (rr (0)) (rr (1)) (rr (2)) (rr 3) (rr (4))) (rfl) ?_
    refine lv_istore (lv' := [(13, .int (rA w j (rr (0)) (rr (1)) (rr (2)) (rr 3) (rr (4)))), (12, .int (sGG j (rr (4)) (rr (5)) (rr (6)))), (11, .int (sFF j (rr (0)) (rr (1)) (rr (2)))), (10, .int ((rl 7 25 ((rl 12 20 (rr (0)) + rr (4)) + sT j)) ^^^ (rl 12 20 (rr (0))))), (9, .int (rl 7 25 ((rl 12 20 (rr (0)) + rr (4)) + sT j))), (8, .int (sT j)), (7, .int (rr (6))), (6, .int (rr (5))), (5, .int (rr (4))), (4, .int (rr (2))), (3, .int (rr (1))), (2, .int (rr (0))), (0, .ref mo), (1, .int (nI (j)))]) hx hb dX3_round_186 hl (by decide) rfl (fun ls hl => ?_)
    refine lv_iload hx hb dX3_round_188 (lv_at hl 1 rfl) ?_
    refine lv_aload_n hx hb dX3_round_190 rfl (lv_at hl 12 rfl) ?_
    refine g_get hx hb C h (ci := 2) in_X3 rfl 0 rfl 7 (by decide) q261 rfl rfl dX3_round_191 ?_
    refine lv_bipush (v := nI (7)) hx hb dX3_round_194 (by decide) ?_
    refine g_ild (j := 7) hx hb C h 2 rfl (by decide) (by decide) dX3_round_196 ?_
    refine lv_iadd hx hb dX3_round_197 ?_
    refine lv_iload hx hb dX3_round_198 (lv_at hl 4 rfl) ?_
    refine lv_iadd hx hb dX3_round_200 ?_
    refine lv_aload_n hx hb dX3_round_201 rfl (lv_at hl 12 rfl) ?_
    refine g_get hx hb C h (ci := 2) in_X3 rfl 0 rfl 5 (by decide) q259 rfl rfl dX3_round_202 ?_
    refine lv_iload_n hx hb dX3_round_205 rfl (lv_at hl 13 rfl) ?_
    refine g_ild (j := j) hx hb C h 1 rfl (by omega) (by decide) dX3_round_206 ?_
    refine lv_iadd hx hb dX3_round_207 ?_
    refine tp_i (y := rE w j (rr (0)) (rr (4)) (rr (5)) (rr (6)) (rr 7)) (rfl) ?_
    refine lv_istore (lv' := [(14, .int (rE w j (rr (0)) (rr (4)) (rr (5)) (rr (6)) (rr 7))), (13, .int (rA w j (rr (0)) (rr (1)) (rr (2)) (rr 3) (rr (4)))), (12, .int (sGG j (rr (4)) (rr (5)) (rr (6)))), (11, .int (sFF j (rr (0)) (rr (1)) (rr (2)))), (10, .int ((rl 7 25 ((rl 12 20 (rr (0)) + rr (4)) + sT j)) ^^^ (rl 12 20 (rr (0))))), (9, .int (rl 7 25 ((rl 12 20 (rr (0)) + rr (4)) + sT j))), (8, .int (sT j)), (7, .int (rr (6))), (6, .int (rr (5))), (5, .int (rr (4))), (4, .int (rr (2))), (3, .int (rr (1))), (2, .int (rr (0))), (0, .ref mo), (1, .int (nI (j)))]) hx hb dX3_round_208 hl (by decide) rfl (fun ls hl => ?_)
    refine lv_aload_n hx hb dX3_round_210 rfl (lv_at hl 13 rfl) ?_
    refine g_get hx hb C h (ci := 2) in_X3 rfl 0 rfl 7 (by decide) q261 rfl rfl dX3_round_211 ?_
    refine lv_iconst (v := nI (3)) hx hb dX3_round_214 (by decide) ?_
    refine lv_iload hx hb dX3_round_215 (lv_at hl 10 rfl) ?_
    refine g_ist (j := 3) hx hb C h 2 rfl (by decide) (by decide) dX3_round_217 (fun H locs h => ?_)
    have h : HS G A s _ _ [oM mo [.ref mou, .ref mtx, .int (nI (z)), .ref mms, .int (nI (n)), .ref mwa, .ref mva, .ref mra], aI G mwa 68 (w), aI G mra 8 (upd rr (3) (rr (2)))] := h
    refine lv_aload_n hx hb dX3_round_218 rfl (lv_at hl 13 rfl) ?_
    refine g_get hx hb C h (ci := 2) in_X3 rfl 0 rfl 7 (by decide) q261 rfl rfl dX3_round_219 ?_
    refine lv_iconst (v := nI (2)) hx hb dX3_round_222 (by decide) ?_
    refine lv_iload_n hx hb dX3_round_223 rfl (lv_at hl 11 rfl) ?_
    refine lv_bipush (v := nI (9)) hx hb dX3_round_224 (by decide) ?_
    refine kSp (rest := [.int (nI (2)), .ref mra]) (na := 2) hx hb hml C h (c_X3_turned l G 9 _ (rr (1)) (by decide)) (lw_S q333 q334 q20 q335) (by decide +kernel) rfl ⟨Nat.le_of_ble_eq_true rfl, Nat.le_of_ble_eq_true rfl⟩ [] (by decide) rfl hl.1 rfl (Nat.le_of_ble_eq_true rfl) ⟨Nat.le_of_ble_eq_true rfl, Nat.le_of_ble_eq_true rfl⟩ dX3_round_226 (fun r_229 hp => ?_)
    obtain rfl : r_229 = rl 9 23 (rr (1)) := hp.trans (rot_9 _)
    refine g_ist (j := 2) hx hb C h 2 rfl (by decide) (by decide) dX3_round_229 (fun H locs h => ?_)
    have h : HS G A s _ _ [oM mo [.ref mou, .ref mtx, .int (nI (z)), .ref mms, .int (nI (n)), .ref mwa, .ref mva, .ref mra], aI G mwa 68 (w), aI G mra 8 (upd (upd rr (3) (rr (2))) (2) (rl 9 23 (rr (1))))] := h
    refine lv_aload_n hx hb dX3_round_230 rfl (lv_at hl 13 rfl) ?_
    refine g_get hx hb C h (ci := 2) in_X3 rfl 0 rfl 7 (by decide) q261 rfl rfl dX3_round_231 ?_
    refine lv_iconst (v := nI (1)) hx hb dX3_round_234 (by decide) ?_
    refine lv_iload_n hx hb dX3_round_235 rfl (lv_at hl 12 rfl) ?_
    refine g_ist (j := 1) hx hb C h 2 rfl (by decide) (by decide) dX3_round_236 (fun H locs h => ?_)
    have h : HS G A s _ _ [oM mo [.ref mou, .ref mtx, .int (nI (z)), .ref mms, .int (nI (n)), .ref mwa, .ref mva, .ref mra], aI G mwa 68 (w), aI G mra 8 (upd (upd (upd rr (3) (rr (2))) (2) (rl 9 23 (rr (1)))) (1) (rr (0)))] := h
    refine lv_aload_n hx hb dX3_round_237 rfl (lv_at hl 13 rfl) ?_
    refine g_get hx hb C h (ci := 2) in_X3 rfl 0 rfl 7 (by decide) q261 rfl rfl dX3_round_238 ?_
    refine lv_iconst (v := nI (0)) hx hb dX3_round_241 (by decide) ?_
    refine lv_iload hx hb dX3_round_242 (lv_at hl 1 rfl) ?_
    refine g_ist (j := 0) hx hb C h 2 rfl (by decide) (by decide) dX3_round_244 (fun H locs h => ?_)
    have h : HS G A s _ _ [oM mo [.ref mou, .ref mtx, .int (nI (z)), .ref mms, .int (nI (n)), .ref mwa, .ref mva, .ref mra], aI G mwa 68 (w), aI G mra 8 (upd (upd (upd (upd rr (3) (rr (2))) (2) (rl 9 23 (rr (1)))) (1) (rr (0))) (0) (rA w j (rr (0)) (rr (1)) (rr (2)) (rr 3) (rr (4))))] := h
    refine lv_aload_n hx hb dX3_round_245 rfl (lv_at hl 13 rfl) ?_
    refine g_get hx hb C h (ci := 2) in_X3 rfl 0 rfl 7 (by decide) q261 rfl rfl dX3_round_246 ?_
    refine lv_bipush (v := nI (7)) hx hb dX3_round_249 (by decide) ?_
    refine lv_iload hx hb dX3_round_251 (lv_at hl 7 rfl) ?_
    refine g_ist (j := 7) hx hb C h 2 rfl (by decide) (by decide) dX3_round_253 (fun H locs h => ?_)
    have h : HS G A s _ _ [oM mo [.ref mou, .ref mtx, .int (nI (z)), .ref mms, .int (nI (n)), .ref mwa, .ref mva, .ref mra], aI G mwa 68 (w), aI G mra 8 (upd (upd (upd (upd (upd rr (3) (rr (2))) (2) (rl 9 23 (rr (1)))) (1) (rr (0))) (0) (rA w j (rr (0)) (rr (1)) (rr (2)) (rr 3) (rr (4)))) (7) (rr (6)))] := h
    refine lv_aload_n hx hb dX3_round_254 rfl (lv_at hl 13 rfl) ?_
    refine g_get hx hb C h (ci := 2) in_X3 rfl 0 rfl 7 (by decide) q261 rfl rfl dX3_round_255 ?_
    refine lv_bipush (v := nI (6)) hx hb dX3_round_258 (by decide) ?_
    refine lv_iload hx hb dX3_round_260 (lv_at hl 8 rfl) ?_
    refine lv_bipush (v := nI (19)) hx hb dX3_round_262 (by decide) ?_
    refine kSp (rest := [.int (nI (6)), .ref mra]) (na := 2) hx hb hml C h (c_X3_turned l G 19 _ (rr (5)) (by decide)) (lw_S q333 q334 q20 q335) (by decide +kernel) rfl ⟨Nat.le_of_ble_eq_true rfl, Nat.le_of_ble_eq_true rfl⟩ [] (by decide) rfl hl.1 rfl (Nat.le_of_ble_eq_true rfl) ⟨Nat.le_of_ble_eq_true rfl, Nat.le_of_ble_eq_true rfl⟩ dX3_round_264 (fun r_267 hp => ?_)
    obtain rfl : r_267 = rl 19 13 (rr (5)) := hp.trans (rot_19 _)
    refine g_ist (j := 6) hx hb C h 2 rfl (by decide) (by decide) dX3_round_267 (fun H locs h => ?_)
    have h : HS G A s _ _ [oM mo [.ref mou, .ref mtx, .int (nI (z)), .ref mms, .int (nI (n)), .ref mwa, .ref mva, .ref mra], aI G mwa 68 (w), aI G mra 8 (upd (upd (upd (upd (upd (upd rr (3) (rr (2))) (2) (rl 9 23 (rr (1)))) (1) (rr (0))) (0) (rA w j (rr (0)) (rr (1)) (rr (2)) (rr 3) (rr (4)))) (7) (rr (6))) (6) (rl 19 13 (rr (5))))] := h
    refine lv_aload_n hx hb dX3_round_268 rfl (lv_at hl 13 rfl) ?_
    refine g_get hx hb C h (ci := 2) in_X3 rfl 0 rfl 7 (by decide) q261 rfl rfl dX3_round_269 ?_
    refine lv_iconst (v := nI (5)) hx hb dX3_round_272 (by decide) ?_
    refine lv_iload hx hb dX3_round_273 (lv_at hl 9 rfl) ?_
    refine g_ist (j := 5) hx hb C h 2 rfl (by decide) (by decide) dX3_round_275 (fun H locs h => ?_)
    have h : HS G A s _ _ [oM mo [.ref mou, .ref mtx, .int (nI (z)), .ref mms, .int (nI (n)), .ref mwa, .ref mva, .ref mra], aI G mwa 68 (w), aI G mra 8 (upd (upd (upd (upd (upd (upd (upd rr (3) (rr (2))) (2) (rl 9 23 (rr (1)))) (1) (rr (0))) (0) (rA w j (rr (0)) (rr (1)) (rr (2)) (rr 3) (rr (4)))) (7) (rr (6))) (6) (rl 19 13 (rr (5)))) (5) (rr (4)))] := h
    refine lv_aload_n hx hb dX3_round_276 rfl (lv_at hl 13 rfl) ?_
    refine g_get hx hb C h (ci := 2) in_X3 rfl 0 rfl 7 (by decide) q261 rfl rfl dX3_round_277 ?_
    refine lv_iconst (v := nI (4)) hx hb dX3_round_280 (by decide) ?_
    refine lv_iload hx hb dX3_round_281 (lv_at hl 0 rfl) ?_
    refine kSp (rest := [.int (nI (4)), .ref mra]) (na := 1) hx hb hml C h (c_X3_p0 l G _ (rE w j (rr (0)) (rr (4)) (rr (5)) (rr (6)) (rr 7))) (lw_S q345 q346 q20 q347) (by decide +kernel) rfl ⟨Nat.le_of_ble_eq_true rfl, Nat.le_of_ble_eq_true rfl⟩ [] (by decide) rfl hl.1 rfl (Nat.le_of_ble_eq_true rfl) ⟨Nat.le_of_ble_eq_true rfl, Nat.le_of_ble_eq_true rfl⟩ dX3_round_283 (fun r_286 hp => ?_)
    obtain rfl : r_286 = sP0 (rE w j (rr (0)) (rr (4)) (rr (5)) (rr (6)) (rr 7)) := hp
    refine g_ist (j := 4) hx hb C h 2 rfl (by decide) (by decide) dX3_round_286 (fun H locs h => ?_)
    have h : HS G A s _ _ [oM mo [.ref mou, .ref mtx, .int (nI (z)), .ref mms, .int (nI (n)), .ref mwa, .ref mva, .ref mra], aI G mwa 68 (w), aI G mra 8 (upd (upd (upd (upd (upd (upd (upd (upd rr (3) (rr (2))) (2) (rl 9 23 (rr (1)))) (1) (rr (0))) (0) (rA w j (rr (0)) (rr (1)) (rr (2)) (rr 3) (rr (4)))) (7) (rr (6))) (6) (rl 19 13 (rr (5)))) (5) (rr (4))) (4) (sP0 (rE w j (rr (0)) (rr (4)) (rr (5)) (rr (6)) (rr 7))))] := h
    exact retV hx hb hr hk (upd (upd (upd (upd (upd (upd (upd (upd rr (3) (rr (2))) (2) (rl 9 23 (rr (1)))) (1) (rr (0))) (0) (rA w j (rr (0)) (rr (1)) (rr (2)) (rr 3) (rr (4)))) (7) (rr (6))) (6) (rl 19 13 (rr (5)))) (5) (rr (4))) (4) (sP0 (rE w j (rr (0)) (rr (4)) (rr (5)) (rr (6)) (rr 7)))) h (rfl) dX3_round_287
  · skip
    refine lv_aload_n hx hb dX3_round_0 rfl (lv_at hl 0 rfl) ?_
    refine g_get hx hb C h (ci := 2) in_X3 rfl 0 rfl 7 (by decide) q261 rfl rfl dX3_round_1 ?_
    refine lv_iconst (v := nI (0)) hx hb dX3_round_4 (by decide) ?_
    refine g_ild (j := 0) hx hb C h 2 rfl (by decide) (by decide) dX3_round_5 ?_
    refine lv_istore_n (lv' := [(2, .int (rr (0))), (0, .ref mo), (1, .int (nI (j)))]) hx hb dX3_round_6 rfl hl (by decide) rfl (fun ls hl => ?_)
    refine lv_aload_n hx hb dX3_round_7 rfl (lv_at hl 1 rfl) ?_
    refine g_get hx hb C h (ci := 2) in_X3 rfl 0 rfl 7 (by decide) q261 rfl rfl dX3_round_8 ?_
    refine lv_iconst (v := nI (1)) hx hb dX3_round_11 (by decide) ?_
    refine g_ild (j := 1) hx hb C h 2 rfl (by decide) (by decide) dX3_round_12 ?_
    refine lv_istore_n (lv' := [(3, .int (rr (1))), (2, .int (rr (0))), (0, .ref mo), (1, .int (nI (j)))]) hx hb dX3_round_13 rfl hl (by decide) rfl (fun ls hl => ?_)
    refine lv_aload_n hx hb dX3_round_14 rfl (lv_at hl 2 rfl) ?_
    refine g_get hx hb C h (ci := 2) in_X3 rfl 0 rfl 7 (by decide) q261 rfl rfl dX3_round_15 ?_
    refine lv_iconst (v := nI (2)) hx hb dX3_round_18 (by decide) ?_
    refine g_ild (j := 2) hx hb C h 2 rfl (by decide) (by decide) dX3_round_19 ?_
    refine lv_istore (lv' := [(4, .int (rr (2))), (3, .int (rr (1))), (2, .int (rr (0))), (0, .ref mo), (1, .int (nI (j)))]) hx hb dX3_round_20 hl (by decide) rfl (fun ls hl => ?_)
    refine lv_aload_n hx hb dX3_round_22 rfl (lv_at hl 3 rfl) ?_
    refine g_get hx hb C h (ci := 2) in_X3 rfl 0 rfl 7 (by decide) q261 rfl rfl dX3_round_23 ?_
    refine lv_iconst (v := nI (4)) hx hb dX3_round_26 (by decide) ?_
    refine g_ild (j := 4) hx hb C h 2 rfl (by decide) (by decide) dX3_round_27 ?_
    refine lv_istore (lv' := [(5, .int (rr (4))), (4, .int (rr (2))), (3, .int (rr (1))), (2, .int (rr (0))), (0, .ref mo), (1, .int (nI (j)))]) hx hb dX3_round_28 hl (by decide) rfl (fun ls hl => ?_)
    refine lv_aload_n hx hb dX3_round_30 rfl (lv_at hl 4 rfl) ?_
    refine g_get hx hb C h (ci := 2) in_X3 rfl 0 rfl 7 (by decide) q261 rfl rfl dX3_round_31 ?_
    refine lv_iconst (v := nI (5)) hx hb dX3_round_34 (by decide) ?_
    refine g_ild (j := 5) hx hb C h 2 rfl (by decide) (by decide) dX3_round_35 ?_
    refine lv_istore (lv' := [(6, .int (rr (5))), (5, .int (rr (4))), (4, .int (rr (2))), (3, .int (rr (1))), (2, .int (rr (0))), (0, .ref mo), (1, .int (nI (j)))]) hx hb dX3_round_36 hl (by decide) rfl (fun ls hl => ?_)
    refine lv_aload_n hx hb dX3_round_38 rfl (lv_at hl 5 rfl) ?_
    refine g_get hx hb C h (ci := 2) in_X3 rfl 0 rfl 7 (by decide) q261 rfl rfl dX3_round_39 ?_
    refine lv_bipush (v := nI (6)) hx hb dX3_round_42 (by decide) ?_
    refine g_ild (j := 6) hx hb C h 2 rfl (by decide) (by decide) dX3_round_44 ?_
    refine lv_istore (lv' := [(7, .int (rr (6))), (6, .int (rr (5))), (5, .int (rr (4))), (4, .int (rr (2))), (3, .int (rr (1))), (2, .int (rr (0))), (0, .ref mo), (1, .int (nI (j)))]) hx hb dX3_round_45 hl (by decide) rfl (fun ls hl => ?_)
    refine lv_iload_n hx hb dX3_round_47 rfl (lv_at hl 7 rfl) ?_
    refine lv_bipush (v := nI (16)) hx hb dX3_round_48 (by decide) ?_
    refine lv_icmp_ge (tgt := 58) hx hb dX3_round_50 (by decide) (fun _ => ?_) (fun c_ => absurd (nI_le (a := 16) (b := j) (by omega) (by omega)) c_)
    refine lv_ldc (v := 2055708042) hx hb C.2.2.2.1 (C.2.2.2.2 _ q344) dX3_round_58 ?_
    refine lv_iload_n hx hb dX3_round_60 rfl (lv_at hl 7 rfl) ?_
    refine kSp (rest := []) (na := 2) hx hb hml C h (c_X3_turned l G j _ (2055708042) hj) (lw_S q333 q334 q20 q335) (by decide +kernel) rfl ⟨Nat.le_of_ble_eq_true rfl, Nat.le_of_ble_eq_true rfl⟩ [] (by decide) rfl hl.1 rfl (Nat.le_of_ble_eq_true rfl) ⟨Nat.le_of_ble_eq_true rfl, Nat.le_of_ble_eq_true rfl⟩ dX3_round_61 (fun r_64 hp => ?_)
    obtain rfl : r_64 = sT j := hp.trans (by unfold sT; rw [if_neg hlt])
    refine lv_istore (lv' := [(8, .int (sT j)), (7, .int (rr (6))), (6, .int (rr (5))), (5, .int (rr (4))), (4, .int (rr (2))), (3, .int (rr (1))), (2, .int (rr (0))), (0, .ref mo), (1, .int (nI (j)))]) hx hb dX3_round_64 hl (by decide) rfl (fun ls hl => ?_)
    refine lv_iload_n hx hb dX3_round_66 rfl (lv_at hl 6 rfl) ?_
    refine lv_bipush (v := nI (12)) hx hb dX3_round_67 (by decide) ?_
    refine kSp (rest := []) (na := 2) hx hb hml C h (c_X3_turned l G 12 _ (rr (0)) (by decide)) (lw_S q333 q334 q20 q335) (by decide +kernel) rfl ⟨Nat.le_of_ble_eq_true rfl, Nat.le_of_ble_eq_true rfl⟩ [] (by decide) rfl hl.1 rfl (Nat.le_of_ble_eq_true rfl) ⟨Nat.le_of_ble_eq_true rfl, Nat.le_of_ble_eq_true rfl⟩ dX3_round_69 (fun r_72 hp => ?_)
    obtain rfl : r_72 = rl 12 20 (rr (0)) := hp.trans (rot_12 _)
    refine lv_iload hx hb dX3_round_72 (lv_at hl 3 rfl) ?_
    refine lv_iadd hx hb dX3_round_74 ?_
    refine lv_iload hx hb dX3_round_75 (lv_at hl 0 rfl) ?_
    refine lv_iadd hx hb dX3_round_77 ?_
    refine lv_bipush (v := nI (7)) hx hb dX3_round_78 (by decide) ?_
    refine kSp (rest := []) (na := 2) hx hb hml C h (c_X3_turned l G 7 _ ((rl 12 20 (rr (0)) + rr (4)) + sT j) (by decide)) (lw_S q333 q334 q20 q335) (by decide +kernel) rfl ⟨Nat.le_of_ble_eq_true rfl, Nat.le_of_ble_eq_true rfl⟩ [] (by decide) rfl hl.1 rfl (Nat.le_of_ble_eq_true rfl) ⟨Nat.le_of_ble_eq_true rfl, Nat.le_of_ble_eq_true rfl⟩ dX3_round_80 (fun r_83 hp => ?_)
    obtain rfl : r_83 = rl 7 25 ((rl 12 20 (rr (0)) + rr (4)) + sT j) := hp.trans (rot_7 _)
    refine lv_istore (lv' := [(9, .int (rl 7 25 ((rl 12 20 (rr (0)) + rr (4)) + sT j))), (8, .int (sT j)), (7, .int (rr (6))), (6, .int (rr (5))), (5, .int (rr (4))), (4, .int (rr (2))), (3, .int (rr (1))), (2, .int (rr (0))), (0, .ref mo), (1, .int (nI (j)))]) hx hb dX3_round_83 hl (by decide) rfl (fun ls hl => ?_)
    refine lv_iload hx hb dX3_round_85 (lv_at hl 0 rfl) ?_
    refine lv_iload_n hx hb dX3_round_87 rfl (lv_at hl 7 rfl) ?_
    refine lv_bipush (v := nI (12)) hx hb dX3_round_88 (by decide) ?_
    refine kSp (rest := [.int (rl 7 25 ((rl 12 20 (rr (0)) + rr (4)) + sT j))]) (na := 2) hx hb hml C h (c_X3_turned l G 12 _ (rr (0)) (by decide)) (lw_S q333 q334 q20 q335) (by decide +kernel) rfl ⟨Nat.le_of_ble_eq_true rfl, Nat.le_of_ble_eq_true rfl⟩ [] (by decide) rfl hl.1 rfl (Nat.le_of_ble_eq_true rfl) ⟨Nat.le_of_ble_eq_true rfl, Nat.le_of_ble_eq_true rfl⟩ dX3_round_90 (fun r_93 hp => ?_)
    obtain rfl : r_93 = rl 12 20 (rr (0)) := hp.trans (rot_12 _)
    refine lv_ixor hx hb dX3_round_93 ?_
    refine lv_istore (lv' := [(10, .int ((rl 7 25 ((rl 12 20 (rr (0)) + rr (4)) + sT j)) ^^^ (rl 12 20 (rr (0))))), (9, .int (rl 7 25 ((rl 12 20 (rr (0)) + rr (4)) + sT j))), (8, .int (sT j)), (7, .int (rr (6))), (6, .int (rr (5))), (5, .int (rr (4))), (4, .int (rr (2))), (3, .int (rr (1))), (2, .int (rr (0))), (0, .ref mo), (1, .int (nI (j)))]) hx hb dX3_round_94 hl (by decide) rfl (fun ls hl => ?_)
    refine lv_iload_n hx hb dX3_round_96 rfl (lv_at hl 10 rfl) ?_
    refine lv_bipush (v := nI (16)) hx hb dX3_round_97 (by decide) ?_
    refine lv_icmp_ge (tgt := 111) hx hb dX3_round_99 (by decide) (fun _ => ?_) (fun c_ => absurd (nI_le (a := 16) (b := j) (by omega) (by omega)) c_)
    refine lv_iload_n hx hb dX3_round_111 rfl (lv_at hl 8 rfl) ?_
    refine lv_iload_n hx hb dX3_round_112 rfl (lv_at hl 7 rfl) ?_
    refine lv_iand hx hb dX3_round_113 ?_
    refine lv_iload_n hx hb dX3_round_114 rfl (lv_at hl 8 rfl) ?_
    refine lv_iload hx hb dX3_round_115 (lv_at hl 6 rfl) ?_
    refine lv_iand hx hb dX3_round_117 ?_
    refine lv_ior hx hb dX3_round_118 ?_
    refine lv_iload_n hx hb dX3_round_119 rfl (lv_at hl 7 rfl) ?_
    refine lv_iload hx hb dX3_round_120 (lv_at hl 6 rfl) ?_
    refine lv_iand hx hb dX3_round_122 ?_
    refine lv_ior hx hb dX3_round_123 ?_
    refine tp_i (y := sFF j (rr (0)) (rr (1)) (rr (2))) ((if_neg hlt).symm) ?_
    refine lv_istore (lv' := [(11, .int (sFF j (rr (0)) (rr (1)) (rr (2)))), (10, .int ((rl 7 25 ((rl 12 20 (rr (0)) + rr (4)) + sT j)) ^^^ (rl 12 20 (rr (0))))), (9, .int (rl 7 25 ((rl 12 20 (rr (0)) + rr (4)) + sT j))), (8, .int (sT j)), (7, .int (rr (6))), (6, .int (rr (5))), (5, .int (rr (4))), (4, .int (rr (2))), (3, .int (rr (1))), (2, .int (rr (0))), (0, .ref mo), (1, .int (nI (j)))]) hx hb dX3_round_124 hl (by decide) rfl (fun ls hl => ?_)
    refine lv_iload_n hx hb dX3_round_126 rfl (lv_at hl 11 rfl) ?_
    refine lv_bipush (v := nI (16)) hx hb dX3_round_127 (by decide) ?_
    refine lv_icmp_ge (tgt := 143) hx hb dX3_round_129 (by decide) (fun _ => ?_) (fun c_ => absurd (nI_le (a := 16) (b := j) (by omega) (by omega)) c_)
    refine lv_iload hx hb dX3_round_143 (lv_at hl 6 rfl) ?_
    refine lv_iload hx hb dX3_round_145 (lv_at hl 5 rfl) ?_
    refine lv_iand hx hb dX3_round_147 ?_
    refine lv_iload hx hb dX3_round_148 (lv_at hl 6 rfl) ?_
    refine lv_iconst (v := (-1)) hx hb dX3_round_150 (by decide) ?_
    refine lv_ixor hx hb dX3_round_151 ?_
    refine lv_iload hx hb dX3_round_152 (lv_at hl 4 rfl) ?_
    refine lv_iand hx hb dX3_round_154 ?_
    refine lv_ior hx hb dX3_round_155 ?_
    refine tp_i (y := sGG j (rr (4)) (rr (5)) (rr (6))) ((if_neg hlt).symm) ?_
    refine lv_istore (lv' := [(12, .int (sGG j (rr (4)) (rr (5)) (rr (6)))), (11, .int (sFF j (rr (0)) (rr (1)) (rr (2)))), (10, .int ((rl 7 25 ((rl 12 20 (rr (0)) + rr (4)) + sT j)) ^^^ (rl 12 20 (rr (0))))), (9, .int (rl 7 25 ((rl 12 20 (rr (0)) + rr (4)) + sT j))), (8, .int (sT j)), (7, .int (rr (6))), (6, .int (rr (5))), (5, .int (rr (4))), (4, .int (rr (2))), (3, .int (rr (1))), (2, .int (rr (0))), (0, .ref mo), (1, .int (nI (j)))]) hx hb dX3_round_156 hl (by decide) rfl (fun ls hl => ?_)
    refine lv_iload hx hb dX3_round_158 (lv_at hl 1 rfl) ?_
    refine lv_aload_n hx hb dX3_round_160 rfl (lv_at hl 11 rfl) ?_
    refine g_get hx hb C h (ci := 2) in_X3 rfl 0 rfl 7 (by decide) q261 rfl rfl dX3_round_161 ?_
    refine lv_iconst (v := nI (3)) hx hb dX3_round_164 (by decide) ?_
    refine g_ild (j := 3) hx hb C h 2 rfl (by decide) (by decide) dX3_round_165 ?_
    refine lv_iadd hx hb dX3_round_166 ?_
    refine lv_iload hx hb dX3_round_167 (lv_at hl 2 rfl) ?_
    refine lv_iadd hx hb dX3_round_169 ?_
    refine lv_aload_n hx hb dX3_round_170 rfl (lv_at hl 11 rfl) ?_
    refine g_get hx hb C h (ci := 2) in_X3 rfl 0 rfl 5 (by decide) q259 rfl rfl dX3_round_171 ?_
    refine lv_iload_n hx hb dX3_round_174 rfl (lv_at hl 12 rfl) ?_
    refine g_ild (j := j) hx hb C h 1 rfl (by omega) (by decide) dX3_round_175 ?_
    refine lv_aload_n hx hb dX3_round_176 rfl (lv_at hl 11 rfl) ?_
    refine g_get hx hb C h (ci := 2) in_X3 rfl 0 rfl 5 (by decide) q259 rfl rfl dX3_round_177 ?_
    refine lv_iload_n hx hb dX3_round_180 rfl (lv_at hl 12 rfl) ?_
    refine lv_iconst (v := nI (4)) hx hb dX3_round_181 (by decide) ?_
    refine lv_iadd hx hb dX3_round_182 ?_
    refine tp_i (y := nI (j + 4)) (nI_add (j) (4)) ?_
    refine g_ild (j := j + 4) hx hb C h 1 rfl (by omega) (by decide) dX3_round_183 ?_
    refine lv_ixor hx hb dX3_round_184 ?_
    refine lv_iadd hx hb dX3_round_185 ?_
    refine tp_i (y := rA w j (rr (0)) (rr (1)) (rr (2)) (rr 3) (rr (4))) (rfl) ?_
    refine lv_istore (lv' := [(13, .int (rA w j (rr (0)) (rr (1)) (rr (2)) (rr 3) (rr (4)))), (12, .int (sGG j (rr (4)) (rr (5)) (rr (6)))), (11, .int (sFF j (rr (0)) (rr (1)) (rr (2)))), (10, .int ((rl 7 25 ((rl 12 20 (rr (0)) + rr (4)) + sT j)) ^^^ (rl 12 20 (rr (0))))), (9, .int (rl 7 25 ((rl 12 20 (rr (0)) + rr (4)) + sT j))), (8, .int (sT j)), (7, .int (rr (6))), (6, .int (rr (5))), (5, .int (rr (4))), (4, .int (rr (2))), (3, .int (rr (1))), (2, .int (rr (0))), (0, .ref mo), (1, .int (nI (j)))]) hx hb dX3_round_186 hl (by decide) rfl (fun ls hl => ?_)
    refine lv_iload hx hb dX3_round_188 (lv_at hl 1 rfl) ?_
    refine lv_aload_n hx hb dX3_round_190 rfl (lv_at hl 12 rfl) ?_
    refine g_get hx hb C h (ci := 2) in_X3 rfl 0 rfl 7 (by decide) q261 rfl rfl dX3_round_191 ?_
    refine lv_bipush (v := nI (7)) hx hb dX3_round_194 (by decide) ?_
    refine g_ild (j := 7) hx hb C h 2 rfl (by decide) (by decide) dX3_round_196 ?_
    refine lv_iadd hx hb dX3_round_197 ?_
    refine lv_iload hx hb dX3_round_198 (lv_at hl 4 rfl) ?_
    refine lv_iadd hx hb dX3_round_200 ?_
    refine lv_aload_n hx hb dX3_round_201 rfl (lv_at hl 12 rfl) ?_
    refine g_get hx hb C h (ci := 2) in_X3 rfl 0 rfl 5 (by decide) q259 rfl rfl dX3_round_202 ?_
    refine lv_iload_n hx hb dX3_round_205 rfl (lv_at hl 13 rfl) ?_
    refine g_ild (j := j) hx hb C h 1 rfl (by omega) (by decide) dX3_round_206 ?_
    refine lv_iadd hx hb dX3_round_207 ?_
    refine tp_i (y := rE w j (rr (0)) (rr (4)) (rr (5)) (rr (6)) (rr 7)) (rfl) ?_
    refine lv_istore (lv' := [(14, .int (rE w j (rr (0)) (rr (4)) (rr (5)) (rr (6)) (rr 7))), (13, .int (rA w j (rr (0)) (rr (1)) (rr (2)) (rr 3) (rr (4)))), (12, .int (sGG j (rr (4)) (rr (5)) (rr (6)))), (11, .int (sFF j (rr (0)) (rr (1)) (rr (2)))), (10, .int ((rl 7 25 ((rl 12 20 (rr (0)) + rr (4)) + sT j)) ^^^ (rl 12 20 (rr (0))))), (9, .int (rl 7 25 ((rl 12 20 (rr (0)) + rr (4)) + sT j))), (8, .int (sT j)), (7, .int (rr (6))), (6, .int (rr (5))), (5, .int (rr (4))), (4, .int (rr (2))), (3, .int (rr (1))), (2, .int (rr (0))), (0, .ref mo), (1, .int (nI (j)))]) hx hb dX3_round_208 hl (by decide) rfl (fun ls hl => ?_)
    refine lv_aload_n hx hb dX3_round_210 rfl (lv_at hl 13 rfl) ?_
    refine g_get hx hb C h (ci := 2) in_X3 rfl 0 rfl 7 (by decide) q261 rfl rfl dX3_round_211 ?_
    refine lv_iconst (v := nI (3)) hx hb dX3_round_214 (by decide) ?_
    refine lv_iload hx hb dX3_round_215 (lv_at hl 10 rfl) ?_
    refine g_ist (j := 3) hx hb C h 2 rfl (by decide) (by decide) dX3_round_217 (fun H locs h => ?_)
    have h : HS G A s _ _ [oM mo [.ref mou, .ref mtx, .int (nI (z)), .ref mms, .int (nI (n)), .ref mwa, .ref mva, .ref mra], aI G mwa 68 (w), aI G mra 8 (upd rr (3) (rr (2)))] := h
    refine lv_aload_n hx hb dX3_round_218 rfl (lv_at hl 13 rfl) ?_
    refine g_get hx hb C h (ci := 2) in_X3 rfl 0 rfl 7 (by decide) q261 rfl rfl dX3_round_219 ?_
    refine lv_iconst (v := nI (2)) hx hb dX3_round_222 (by decide) ?_
    refine lv_iload_n hx hb dX3_round_223 rfl (lv_at hl 11 rfl) ?_
    refine lv_bipush (v := nI (9)) hx hb dX3_round_224 (by decide) ?_
    refine kSp (rest := [.int (nI (2)), .ref mra]) (na := 2) hx hb hml C h (c_X3_turned l G 9 _ (rr (1)) (by decide)) (lw_S q333 q334 q20 q335) (by decide +kernel) rfl ⟨Nat.le_of_ble_eq_true rfl, Nat.le_of_ble_eq_true rfl⟩ [] (by decide) rfl hl.1 rfl (Nat.le_of_ble_eq_true rfl) ⟨Nat.le_of_ble_eq_true rfl, Nat.le_of_ble_eq_true rfl⟩ dX3_round_226 (fun r_229 hp => ?_)
    obtain rfl : r_229 = rl 9 23 (rr (1)) := hp.trans (rot_9 _)
    refine g_ist (j := 2) hx hb C h 2 rfl (by decide) (by decide) dX3_round_229 (fun H locs h => ?_)
    have h : HS G A s _ _ [oM mo [.ref mou, .ref mtx, .int (nI (z)), .ref mms, .int (nI (n)), .ref mwa, .ref mva, .ref mra], aI G mwa 68 (w), aI G mra 8 (upd (upd rr (3) (rr (2))) (2) (rl 9 23 (rr (1))))] := h
    refine lv_aload_n hx hb dX3_round_230 rfl (lv_at hl 13 rfl) ?_
    refine g_get hx hb C h (ci := 2) in_X3 rfl 0 rfl 7 (by decide) q261 rfl rfl dX3_round_231 ?_
    refine lv_iconst (v := nI (1)) hx hb dX3_round_234 (by decide) ?_
    refine lv_iload_n hx hb dX3_round_235 rfl (lv_at hl 12 rfl) ?_
    refine g_ist (j := 1) hx hb C h 2 rfl (by decide) (by decide) dX3_round_236 (fun H locs h => ?_)
    have h : HS G A s _ _ [oM mo [.ref mou, .ref mtx, .int (nI (z)), .ref mms, .int (nI (n)), .ref mwa, .ref mva, .ref mra], aI G mwa 68 (w), aI G mra 8 (upd (upd (upd rr (3) (rr (2))) (2) (rl 9 23 (rr (1)))) (1) (rr (0)))] := h
    refine lv_aload_n hx hb dX3_round_237 rfl (lv_at hl 13 rfl) ?_
    refine g_get hx hb C h (ci := 2) in_X3 rfl 0 rfl 7 (by decide) q261 rfl rfl dX3_round_238 ?_
    refine lv_iconst (v := nI (0)) hx hb dX3_round_241 (by decide) ?_
    refine lv_iload hx hb dX3_round_242 (lv_at hl 1 rfl) ?_
    refine g_ist (j := 0) hx hb C h 2 rfl (by decide) (by decide) dX3_round_244 (fun H locs h => ?_)
    have h : HS G A s _ _ [oM mo [.ref mou, .ref mtx, .int (nI (z)), .ref mms, .int (nI (n)), .ref mwa, .ref mva, .ref mra], aI G mwa 68 (w), aI G mra 8 (upd (upd (upd (upd rr (3) (rr (2))) (2) (rl 9 23 (rr (1)))) (1) (rr (0))) (0) (rA w j (rr (0)) (rr (1)) (rr (2)) (rr 3) (rr (4))))] := h
    refine lv_aload_n hx hb dX3_round_245 rfl (lv_at hl 13 rfl) ?_
    refine g_get hx hb C h (ci := 2) in_X3 rfl 0 rfl 7 (by decide) q261 rfl rfl dX3_round_246 ?_
    refine lv_bipush (v := nI (7)) hx hb dX3_round_249 (by decide) ?_
    refine lv_iload hx hb dX3_round_251 (lv_at hl 7 rfl) ?_
    refine g_ist (j := 7) hx hb C h 2 rfl (by decide) (by decide) dX3_round_253 (fun H locs h => ?_)
    have h : HS G A s _ _ [oM mo [.ref mou, .ref mtx, .int (nI (z)), .ref mms, .int (nI (n)), .ref mwa, .ref mva, .ref mra], aI G mwa 68 (w), aI G mra 8 (upd (upd (upd (upd (upd rr (3) (rr (2))) (2) (rl 9 23 (rr (1)))) (1) (rr (0))) (0) (rA w j (rr (0)) (rr (1)) (rr (2)) (rr 3) (rr (4)))) (7) (rr (6)))] := h
    refine lv_aload_n hx hb dX3_round_254 rfl (lv_at hl 13 rfl) ?_
    refine g_get hx hb C h (ci := 2) in_X3 rfl 0 rfl 7 (by decide) q261 rfl rfl dX3_round_255 ?_
    refine lv_bipush (v := nI (6)) hx hb dX3_round_258 (by decide) ?_
    refine lv_iload hx hb dX3_round_260 (lv_at hl 8 rfl) ?_
    refine lv_bipush (v := nI (19)) hx hb dX3_round_262 (by decide) ?_
    refine kSp (rest := [.int (nI (6)), .ref mra]) (na := 2) hx hb hml C h (c_X3_turned l G 19 _ (rr (5)) (by decide)) (lw_S q333 q334 q20 q335) (by decide +kernel) rfl ⟨Nat.le_of_ble_eq_true rfl, Nat.le_of_ble_eq_true rfl⟩ [] (by decide) rfl hl.1 rfl (Nat.le_of_ble_eq_true rfl) ⟨Nat.le_of_ble_eq_true rfl, Nat.le_of_ble_eq_true rfl⟩ dX3_round_264 (fun r_267 hp => ?_)
    obtain rfl : r_267 = rl 19 13 (rr (5)) := hp.trans (rot_19 _)
    refine g_ist (j := 6) hx hb C h 2 rfl (by decide) (by decide) dX3_round_267 (fun H locs h => ?_)
    have h : HS G A s _ _ [oM mo [.ref mou, .ref mtx, .int (nI (z)), .ref mms, .int (nI (n)), .ref mwa, .ref mva, .ref mra], aI G mwa 68 (w), aI G mra 8 (upd (upd (upd (upd (upd (upd rr (3) (rr (2))) (2) (rl 9 23 (rr (1)))) (1) (rr (0))) (0) (rA w j (rr (0)) (rr (1)) (rr (2)) (rr 3) (rr (4)))) (7) (rr (6))) (6) (rl 19 13 (rr (5))))] := h
    refine lv_aload_n hx hb dX3_round_268 rfl (lv_at hl 13 rfl) ?_
    refine g_get hx hb C h (ci := 2) in_X3 rfl 0 rfl 7 (by decide) q261 rfl rfl dX3_round_269 ?_
    refine lv_iconst (v := nI (5)) hx hb dX3_round_272 (by decide) ?_
    refine lv_iload hx hb dX3_round_273 (lv_at hl 9 rfl) ?_
    refine g_ist (j := 5) hx hb C h 2 rfl (by decide) (by decide) dX3_round_275 (fun H locs h => ?_)
    have h : HS G A s _ _ [oM mo [.ref mou, .ref mtx, .int (nI (z)), .ref mms, .int (nI (n)), .ref mwa, .ref mva, .ref mra], aI G mwa 68 (w), aI G mra 8 (upd (upd (upd (upd (upd (upd (upd rr (3) (rr (2))) (2) (rl 9 23 (rr (1)))) (1) (rr (0))) (0) (rA w j (rr (0)) (rr (1)) (rr (2)) (rr 3) (rr (4)))) (7) (rr (6))) (6) (rl 19 13 (rr (5)))) (5) (rr (4)))] := h
    refine lv_aload_n hx hb dX3_round_276 rfl (lv_at hl 13 rfl) ?_
    refine g_get hx hb C h (ci := 2) in_X3 rfl 0 rfl 7 (by decide) q261 rfl rfl dX3_round_277 ?_
    refine lv_iconst (v := nI (4)) hx hb dX3_round_280 (by decide) ?_
    refine lv_iload hx hb dX3_round_281 (lv_at hl 0 rfl) ?_
    refine kSp (rest := [.int (nI (4)), .ref mra]) (na := 1) hx hb hml C h (c_X3_p0 l G _ (rE w j (rr (0)) (rr (4)) (rr (5)) (rr (6)) (rr 7))) (lw_S q345 q346 q20 q347) (by decide +kernel) rfl ⟨Nat.le_of_ble_eq_true rfl, Nat.le_of_ble_eq_true rfl⟩ [] (by decide) rfl hl.1 rfl (Nat.le_of_ble_eq_true rfl) ⟨Nat.le_of_ble_eq_true rfl, Nat.le_of_ble_eq_true rfl⟩ dX3_round_283 (fun r_286 hp => ?_)
    obtain rfl : r_286 = sP0 (rE w j (rr (0)) (rr (4)) (rr (5)) (rr (6)) (rr 7)) := hp
    refine g_ist (j := 4) hx hb C h 2 rfl (by decide) (by decide) dX3_round_286 (fun H locs h => ?_)
    have h : HS G A s _ _ [oM mo [.ref mou, .ref mtx, .int (nI (z)), .ref mms, .int (nI (n)), .ref mwa, .ref mva, .ref mra], aI G mwa 68 (w), aI G mra 8 (upd (upd (upd (upd (upd (upd (upd (upd rr (3) (rr (2))) (2) (rl 9 23 (rr (1)))) (1) (rr (0))) (0) (rA w j (rr (0)) (rr (1)) (rr (2)) (rr 3) (rr (4)))) (7) (rr (6))) (6) (rl 19 13 (rr (5)))) (5) (rr (4))) (4) (sP0 (rE w j (rr (0)) (rr (4)) (rr (5)) (rr (6)) (rr 7))))] := h
    exact retV hx hb hr hk (upd (upd (upd (upd (upd (upd (upd (upd rr (3) (rr (2))) (2) (rl 9 23 (rr (1)))) (1) (rr (0))) (0) (rA w j (rr (0)) (rr (1)) (rr (2)) (rr 3) (rr (4)))) (7) (rr (6))) (6) (rl 19 13 (rr (5)))) (5) (rr (4))) (4) (sP0 (rE w j (rr (0)) (rr (4)) (rr (5)) (rr (6)) (rr 7)))) h (rfl) dX3_round_287
end
section
/-! SmDigestDeskModel: block, close -/
set_option maxRecDepth 100000
theorem mw_at (g : Nat → Int32) (n al b j : Nat) : nI ((((0 * 256 + pdN g n al (64 * b + 4 * j + 0)) * 256 + pdN g n al (64 * b + 4 * j + (0 + 1))) * 256 + pdN g n al (64 * b + 4 * j + (0 + 1 + 1))) * 256 + pdN g n al (64 * b + 4 * j + (0 + 1 + 1 + 1))) = sqw g n al (16 * b + j) := by
  unfold sqw mwN b4
  rw [show 64 * b + 4 * j + 0 = 4 * (16 * b + j) by omega, show 64 * b + 4 * j + (0 + 1) = 4 * (16 * b + j) + 1 by omega, show 64 * b + 4 * j + (0 + 1 + 1) = 4 * (16 * b + j) + 2 by omega, show 64 * b + 4 * j + (0 + 1 + 1 + 1) = 4 * (16 * b + j) + 3 by omega, Nat.zero_mul, Nat.zero_add]
set_option maxHeartbeats 4000000 in
theorem lp1_X3_block {p : Program} {l : Launch} {e : Env} {s : State} {m : MethodId} {args : Array Value} {below : List Frame} {meth : Method} {c : Code} {Q : State → Prop} {G : GG} {A : Nat → Prop} (mo mou mtx mms mwa mva mra : Nat) (n z b al : Nat) (g : Nat → Int32) (hn : n ≤ 16384) (hal : al < 2 ^ 20) (hb4 : 64 * b + 64 ≤ al) (hx : p.tables.exec = Jvm.exec) (hb : c.code = cX3_block) (hml : c.maxLocals = 5) (C : CX G A s args m "SmDigestDeskModel") (v rr : Nat → Int32)
    (kx : ∀ (w : Nat → Int32) (H : Heap) (locs : List Loc) (ls : Array Slot), (∀ i, i < 16 → w i = sqw g n al (16 * b + i)) → HS G A s H locs [oM mo [.ref mou, .ref mtx, .int (nI (z)), .ref mms, .int (nI (n)), .ref mwa, .ref mva, .ref mra], aB G mms 16384 (g), aI G mwa 68 (w), aI G mva 8 (v), aI G mra 8 (rr)] → lv_has ls 5 [(0, .ref mo), (1, .int (nI (64 * b))), (2, .int (nI (al)))] → W p l e (rmc 3 76 0 0) s m args below meth c H locs 0 0 Q (F0 m 65 ls [])) :
    ∀ (k j : Nat) (w : Nat → Int32) (H : Heap) (locs : List Loc) (ls : Array Slot), j + k = 16 → (∀ i, i < j → w i = sqw g n al (16 * b + i)) → HS G A s H locs [oM mo [.ref mou, .ref mtx, .int (nI (z)), .ref mms, .int (nI (n)), .ref mwa, .ref mva, .ref mra], aB G mms 16384 (g), aI G mwa 68 (w), aI G mva 8 (v), aI G mra 8 (rr)] → lv_has ls 5 [(0, .ref mo), (1, .int (nI (64 * b))), (2, .int (nI (al))), (3, .int (nI (j)))] → W p l e (rmc 3 76 0 0) s m args below meth c H locs 0 0 Q (F0 m 2 ls []) := by
  intro k
  induction k with
  | zero =>
    intro j w H locs ls hj hI h hl
    obtain rfl : j = 16 := by omega
    refine lv_iload_n hx hb dX3_block_2 rfl (lv_at hl 3 rfl) ?_
    refine lv_bipush (v := nI (16)) hx hb dX3_block_3 (by decide) ?_
    refine lv_icmp_ge (tgt := 65) hx hb dX3_block_5 (by decide) (fun _ => ?_) (fun c_ => absurd (Int32.le_refl _) c_)
    exact kx w H locs ls hI h (lv_sub hl [0, 1, 2] rfl)
  | succ k ih =>
    intro j w H locs ls hj hI h hl
    have hp0 := pdN_lt g n al (64 * b + 4 * j + 0)
    have hp1 := pdN_lt g n al (64 * b + 4 * j + (0 + 1))
    have hp2 := pdN_lt g n al (64 * b + 4 * j + (0 + 1 + 1))
    have hp3 := pdN_lt g n al (64 * b + 4 * j + (0 + 1 + 1 + 1))
    refine lv_iload_n hx hb dX3_block_2 rfl (lv_at hl 3 rfl) ?_
    refine lv_bipush (v := nI (16)) hx hb dX3_block_3 (by decide) ?_
    refine lv_icmp_ge (tgt := 65) hx hb dX3_block_5 (by decide) (fun c_ => absurd c_ (nI_ge (a := j) (b := 16) (by omega) (by decide))) (fun _ => ?_)
    refine lv_aload_n hx hb dX3_block_8 rfl (lv_at hl 0 rfl) ?_
    refine g_get hx hb C h (ci := 2) in_X3 rfl 0 rfl 5 (by decide) q259 rfl rfl dX3_block_9 ?_
    refine lv_iload_n hx hb dX3_block_12 rfl (lv_at hl 3 rfl) ?_
    refine lv_iconst (v := nI (0)) hx hb dX3_block_13 (by decide) ?_
    refine tp_i (y := nI (0)) (rfl) ?_
    refine g_ist (j := j) hx hb C h 2 rfl (by omega) (by decide) dX3_block_14 (fun H locs h => ?_)
    have h : HS G A s _ _ [oM mo [.ref mou, .ref mtx, .int (nI (z)), .ref mms, .int (nI (n)), .ref mwa, .ref mva, .ref mra], aB G mms 16384 (g), aI G mwa 68 (upd w (j) (nI (0))), aI G mva 8 (v), aI G mra 8 (rr)] := h
    refine lv_iconst (v := nI (0)) hx hb dX3_block_15 (by decide) ?_
    refine lv_istore (lv' := [(4, .int (nI (0))), (0, .ref mo), (1, .int (nI (64 * b))), (2, .int (nI (al))), (3, .int (nI (j)))]) hx hb dX3_block_16 hl (by decide) rfl (fun ls hl => ?_)
    refine lv_iload hx hb dX3_block_18 (lv_at hl 0 rfl) ?_
    refine lv_iconst (v := nI (4)) hx hb dX3_block_20 (by decide) ?_
    refine lv_icmp_ge (tgt := 59) hx hb dX3_block_21 (by decide) (fun c_ => absurd c_ (by decide +kernel)) (fun _ => ?_)
    refine lv_aload_n hx hb dX3_block_24 rfl (lv_at hl 1 rfl) ?_
    refine g_get hx hb C h (ci := 2) in_X3 rfl 0 rfl 5 (by decide) q259 rfl rfl dX3_block_25 ?_
    refine lv_iload_n hx hb dX3_block_28 rfl (lv_at hl 4 rfl) ?_
    refine lv_aload_n hx hb dX3_block_29 rfl (lv_at hl 1 rfl) ?_
    refine g_get hx hb C h (ci := 2) in_X3 rfl 0 rfl 5 (by decide) q259 rfl rfl dX3_block_30 ?_
    refine lv_iload_n hx hb dX3_block_33 rfl (lv_at hl 4 rfl) ?_
    refine g_ild (j := j) hx hb C h 2 rfl (by omega) (by decide) dX3_block_34 ?_
    refine tp_i (y := nI (0)) (pk_us) ?_
    refine lv_bipush (v := 8) hx hb dX3_block_35 (by decide) ?_
    refine lv_ishl hx hb dX3_block_37 ?_
    refine lv_aload_n hx hb dX3_block_38 rfl (lv_at hl 1 rfl) ?_
    refine lv_iload_n hx hb dX3_block_39 rfl (lv_at hl 2 rfl) ?_
    refine lv_iconst (v := nI (4)) hx hb dX3_block_40 (by decide) ?_
    refine lv_iload_n hx hb dX3_block_41 rfl (lv_at hl 4 rfl) ?_
    refine lv_imul hx hb dX3_block_42 ?_
    refine tp_i (y := nI (4 * j)) (pk_mul (4) (j)) ?_
    refine lv_iadd hx hb dX3_block_43 ?_
    refine tp_i (y := nI (64 * b + 4 * j)) (nI_add (64 * b) (4 * j)) ?_
    refine lv_iload hx hb dX3_block_44 (lv_at hl 0 rfl) ?_
    refine lv_iadd hx hb dX3_block_46 ?_
    refine tp_i (y := nI (64 * b + 4 * j + 0)) (nI_add (64 * b + 4 * j) (0)) ?_
    refine lv_iload_n hx hb dX3_block_47 rfl (lv_at hl 3 rfl) ?_
    refine kVp (Cn := "SmDigestDeskModel") (rest := [.int ((nI (0)) <<< ((8 : Int32) &&& 31)), .int (nI (j)), .ref mwa]) (na := 2) hx hb hml C h (c_X3_padded l G mo mou mtx mms mwa mva mra n z (64 * b + 4 * j + 0) al _ g hn (by omega) hal) (lw_V q327 q329 qs12 q20 q330) (by decide +kernel) rfl ⟨Nat.le_of_ble_eq_true rfl, Nat.le_of_ble_eq_true rfl⟩ 0 rfl rfl rfl [0, 1] (by decide) rfl hl.1 rfl (Nat.le_of_ble_eq_true rfl) ⟨Nat.le_of_ble_eq_true rfl, Nat.le_of_ble_eq_true rfl⟩ dX3_block_48 (fun r_51 hp => ?_)
    obtain rfl : r_51 = nI (pdN g n al (64 * b + 4 * j + 0)) := hp
    refine lv_ior hx hb dX3_block_51 ?_
    refine tp_i (y := nI (0 * 256 + pdN g n al (64 * b + 4 * j + 0))) (sh8or (by omega) (by omega)) ?_
    refine g_ist (j := j) hx hb C h 2 rfl (by omega) (by decide) dX3_block_52 (fun H locs h => ?_)
    have h : HS G A s _ _ [oM mo [.ref mou, .ref mtx, .int (nI (z)), .ref mms, .int (nI (n)), .ref mwa, .ref mva, .ref mra], aB G mms 16384 (g), aI G mwa 68 (upd (upd w (j) (nI (0))) (j) (nI (0 * 256 + pdN g n al (64 * b + 4 * j + 0)))), aI G mva 8 (v), aI G mra 8 (rr)] := h
    refine lv_iinc (v := nI (0 + 1)) (lv' := [(4, .int (nI (0 + 1))), (0, .ref mo), (1, .int (nI (64 * b))), (2, .int (nI (al))), (3, .int (nI (j)))]) hx hb dX3_block_53 hl (k := 0) rfl (ii1 (0)) (by decide) rfl (fun ls hl => ?_)
    refine lv_goto (tgt := 18) hx hb dX3_block_56 (by decide) ?_
    refine lv_iload hx hb dX3_block_18 (lv_at hl 0 rfl) ?_
    refine lv_iconst (v := nI (4)) hx hb dX3_block_20 (by decide) ?_
    refine lv_icmp_ge (tgt := 59) hx hb dX3_block_21 (by decide) (fun c_ => absurd c_ (by decide +kernel)) (fun _ => ?_)
    refine lv_aload_n hx hb dX3_block_24 rfl (lv_at hl 1 rfl) ?_
    refine g_get hx hb C h (ci := 2) in_X3 rfl 0 rfl 5 (by decide) q259 rfl rfl dX3_block_25 ?_
    refine lv_iload_n hx hb dX3_block_28 rfl (lv_at hl 4 rfl) ?_
    refine lv_aload_n hx hb dX3_block_29 rfl (lv_at hl 1 rfl) ?_
    refine g_get hx hb C h (ci := 2) in_X3 rfl 0 rfl 5 (by decide) q259 rfl rfl dX3_block_30 ?_
    refine lv_iload_n hx hb dX3_block_33 rfl (lv_at hl 4 rfl) ?_
    refine g_ild (j := j) hx hb C h 2 rfl (by omega) (by decide) dX3_block_34 ?_
    refine tp_i (y := nI (0 * 256 + pdN g n al (64 * b + 4 * j + 0))) (pk_us) ?_
    refine lv_bipush (v := 8) hx hb dX3_block_35 (by decide) ?_
    refine lv_ishl hx hb dX3_block_37 ?_
    refine lv_aload_n hx hb dX3_block_38 rfl (lv_at hl 1 rfl) ?_
    refine lv_iload_n hx hb dX3_block_39 rfl (lv_at hl 2 rfl) ?_
    refine lv_iconst (v := nI (4)) hx hb dX3_block_40 (by decide) ?_
    refine lv_iload_n hx hb dX3_block_41 rfl (lv_at hl 4 rfl) ?_
    refine lv_imul hx hb dX3_block_42 ?_
    refine tp_i (y := nI (4 * j)) (pk_mul (4) (j)) ?_
    refine lv_iadd hx hb dX3_block_43 ?_
    refine tp_i (y := nI (64 * b + 4 * j)) (nI_add (64 * b) (4 * j)) ?_
    refine lv_iload hx hb dX3_block_44 (lv_at hl 0 rfl) ?_
    refine lv_iadd hx hb dX3_block_46 ?_
    refine tp_i (y := nI (64 * b + 4 * j + 0 + 1)) (nI_add (64 * b + 4 * j) (0 + 1)) ?_
    refine lv_iload_n hx hb dX3_block_47 rfl (lv_at hl 3 rfl) ?_
    refine kVp (Cn := "SmDigestDeskModel") (rest := [.int ((nI (0 * 256 + pdN g n al (64 * b + 4 * j + 0))) <<< ((8 : Int32) &&& 31)), .int (nI (j)), .ref mwa]) (na := 2) hx hb hml C h (c_X3_padded l G mo mou mtx mms mwa mva mra n z (64 * b + 4 * j + 0 + 1) al _ g hn (by omega) hal) (lw_V q327 q329 qs12 q20 q330) (by decide +kernel) rfl ⟨Nat.le_of_ble_eq_true rfl, Nat.le_of_ble_eq_true rfl⟩ 0 rfl rfl rfl [0, 1] (by decide) rfl hl.1 rfl (Nat.le_of_ble_eq_true rfl) ⟨Nat.le_of_ble_eq_true rfl, Nat.le_of_ble_eq_true rfl⟩ dX3_block_48 (fun r_51 hp => ?_)
    obtain rfl : r_51 = nI (pdN g n al (64 * b + 4 * j + (0 + 1))) := hp
    refine lv_ior hx hb dX3_block_51 ?_
    refine tp_i (y := nI ((0 * 256 + pdN g n al (64 * b + 4 * j + 0)) * 256 + pdN g n al (64 * b + 4 * j + (0 + 1)))) (sh8or (by omega) (by omega)) ?_
    refine g_ist (j := j) hx hb C h 2 rfl (by omega) (by decide) dX3_block_52 (fun H locs h => ?_)
    have h : HS G A s _ _ [oM mo [.ref mou, .ref mtx, .int (nI (z)), .ref mms, .int (nI (n)), .ref mwa, .ref mva, .ref mra], aB G mms 16384 (g), aI G mwa 68 (upd (upd (upd w (j) (nI (0))) (j) (nI (0 * 256 + pdN g n al (64 * b + 4 * j + 0)))) (j) (nI ((0 * 256 + pdN g n al (64 * b + 4 * j + 0)) * 256 + pdN g n al (64 * b + 4 * j + (0 + 1))))), aI G mva 8 (v), aI G mra 8 (rr)] := h
    refine lv_iinc (v := nI (0 + 1 + 1)) (lv' := [(4, .int (nI (0 + 1 + 1))), (0, .ref mo), (1, .int (nI (64 * b))), (2, .int (nI (al))), (3, .int (nI (j)))]) hx hb dX3_block_53 hl (k := 0) rfl (ii1 (0 + 1)) (by decide) rfl (fun ls hl => ?_)
    refine lv_goto (tgt := 18) hx hb dX3_block_56 (by decide) ?_
    refine lv_iload hx hb dX3_block_18 (lv_at hl 0 rfl) ?_
    refine lv_iconst (v := nI (4)) hx hb dX3_block_20 (by decide) ?_
    refine lv_icmp_ge (tgt := 59) hx hb dX3_block_21 (by decide) (fun c_ => absurd c_ (by decide +kernel)) (fun _ => ?_)
    refine lv_aload_n hx hb dX3_block_24 rfl (lv_at hl 1 rfl) ?_
    refine g_get hx hb C h (ci := 2) in_X3 rfl 0 rfl 5 (by decide) q259 rfl rfl dX3_block_25 ?_
    refine lv_iload_n hx hb dX3_block_28 rfl (lv_at hl 4 rfl) ?_
    refine lv_aload_n hx hb dX3_block_29 rfl (lv_at hl 1 rfl) ?_
    refine g_get hx hb C h (ci := 2) in_X3 rfl 0 rfl 5 (by decide) q259 rfl rfl dX3_block_30 ?_
    refine lv_iload_n hx hb dX3_block_33 rfl (lv_at hl 4 rfl) ?_
    refine g_ild (j := j) hx hb C h 2 rfl (by omega) (by decide) dX3_block_34 ?_
    refine tp_i (y := nI ((0 * 256 + pdN g n al (64 * b + 4 * j + 0)) * 256 + pdN g n al (64 * b + 4 * j + (0 + 1)))) (pk_us) ?_
    refine lv_bipush (v := 8) hx hb dX3_block_35 (by decide) ?_
    refine lv_ishl hx hb dX3_block_37 ?_
    refine lv_aload_n hx hb dX3_block_38 rfl (lv_at hl 1 rfl) ?_
    refine lv_iload_n hx hb dX3_block_39 rfl (lv_at hl 2 rfl) ?_
    refine lv_iconst (v := nI (4)) hx hb dX3_block_40 (by decide) ?_
    refine lv_iload_n hx hb dX3_block_41 rfl (lv_at hl 4 rfl) ?_
    refine lv_imul hx hb dX3_block_42 ?_
    refine tp_i (y := nI (4 * j)) (pk_mul (4) (j)) ?_
    refine lv_iadd hx hb dX3_block_43 ?_
    refine tp_i (y := nI (64 * b + 4 * j)) (nI_add (64 * b) (4 * j)) ?_
    refine lv_iload hx hb dX3_block_44 (lv_at hl 0 rfl) ?_
    refine lv_iadd hx hb dX3_block_46 ?_
    refine tp_i (y := nI (64 * b + 4 * j + 0 + 1 + 1)) (nI_add (64 * b + 4 * j) (0 + 1 + 1)) ?_
    refine lv_iload_n hx hb dX3_block_47 rfl (lv_at hl 3 rfl) ?_
    refine kVp (Cn := "SmDigestDeskModel") (rest := [.int ((nI ((0 * 256 + pdN g n al (64 * b + 4 * j + 0)) * 256 + pdN g n al (64 * b + 4 * j + (0 + 1)))) <<< ((8 : Int32) &&& 31)), .int (nI (j)), .ref mwa]) (na := 2) hx hb hml C h (c_X3_padded l G mo mou mtx mms mwa mva mra n z (64 * b + 4 * j + 0 + 1 + 1) al _ g hn (by omega) hal) (lw_V q327 q329 qs12 q20 q330) (by decide +kernel) rfl ⟨Nat.le_of_ble_eq_true rfl, Nat.le_of_ble_eq_true rfl⟩ 0 rfl rfl rfl [0, 1] (by decide) rfl hl.1 rfl (Nat.le_of_ble_eq_true rfl) ⟨Nat.le_of_ble_eq_true rfl, Nat.le_of_ble_eq_true rfl⟩ dX3_block_48 (fun r_51 hp => ?_)
    obtain rfl : r_51 = nI (pdN g n al (64 * b + 4 * j + (0 + 1 + 1))) := hp
    refine lv_ior hx hb dX3_block_51 ?_
    refine tp_i (y := nI (((0 * 256 + pdN g n al (64 * b + 4 * j + 0)) * 256 + pdN g n al (64 * b + 4 * j + (0 + 1))) * 256 + pdN g n al (64 * b + 4 * j + (0 + 1 + 1)))) (sh8or (by omega) (by omega)) ?_
    refine g_ist (j := j) hx hb C h 2 rfl (by omega) (by decide) dX3_block_52 (fun H locs h => ?_)
    have h : HS G A s _ _ [oM mo [.ref mou, .ref mtx, .int (nI (z)), .ref mms, .int (nI (n)), .ref mwa, .ref mva, .ref mra], aB G mms 16384 (g), aI G mwa 68 (upd (upd (upd (upd w (j) (nI (0))) (j) (nI (0 * 256 + pdN g n al (64 * b + 4 * j + 0)))) (j) (nI ((0 * 256 + pdN g n al (64 * b + 4 * j + 0)) * 256 + pdN g n al (64 * b + 4 * j + (0 + 1))))) (j) (nI (((0 * 256 + pdN g n al (64 * b + 4 * j + 0)) * 256 + pdN g n al (64 * b + 4 * j + (0 + 1))) * 256 + pdN g n al (64 * b + 4 * j + (0 + 1 + 1))))), aI G mva 8 (v), aI G mra 8 (rr)] := h
    refine lv_iinc (v := nI (0 + 1 + 1 + 1)) (lv' := [(4, .int (nI (0 + 1 + 1 + 1))), (0, .ref mo), (1, .int (nI (64 * b))), (2, .int (nI (al))), (3, .int (nI (j)))]) hx hb dX3_block_53 hl (k := 0) rfl (ii1 (0 + 1 + 1)) (by decide) rfl (fun ls hl => ?_)
    refine lv_goto (tgt := 18) hx hb dX3_block_56 (by decide) ?_
    refine lv_iload hx hb dX3_block_18 (lv_at hl 0 rfl) ?_
    refine lv_iconst (v := nI (4)) hx hb dX3_block_20 (by decide) ?_
    refine lv_icmp_ge (tgt := 59) hx hb dX3_block_21 (by decide) (fun c_ => absurd c_ (by decide +kernel)) (fun _ => ?_)
    refine lv_aload_n hx hb dX3_block_24 rfl (lv_at hl 1 rfl) ?_
    refine g_get hx hb C h (ci := 2) in_X3 rfl 0 rfl 5 (by decide) q259 rfl rfl dX3_block_25 ?_
    refine lv_iload_n hx hb dX3_block_28 rfl (lv_at hl 4 rfl) ?_
    refine lv_aload_n hx hb dX3_block_29 rfl (lv_at hl 1 rfl) ?_
    refine g_get hx hb C h (ci := 2) in_X3 rfl 0 rfl 5 (by decide) q259 rfl rfl dX3_block_30 ?_
    refine lv_iload_n hx hb dX3_block_33 rfl (lv_at hl 4 rfl) ?_
    refine g_ild (j := j) hx hb C h 2 rfl (by omega) (by decide) dX3_block_34 ?_
    refine tp_i (y := nI (((0 * 256 + pdN g n al (64 * b + 4 * j + 0)) * 256 + pdN g n al (64 * b + 4 * j + (0 + 1))) * 256 + pdN g n al (64 * b + 4 * j + (0 + 1 + 1)))) (pk_us) ?_
    refine lv_bipush (v := 8) hx hb dX3_block_35 (by decide) ?_
    refine lv_ishl hx hb dX3_block_37 ?_
    refine lv_aload_n hx hb dX3_block_38 rfl (lv_at hl 1 rfl) ?_
    refine lv_iload_n hx hb dX3_block_39 rfl (lv_at hl 2 rfl) ?_
    refine lv_iconst (v := nI (4)) hx hb dX3_block_40 (by decide) ?_
    refine lv_iload_n hx hb dX3_block_41 rfl (lv_at hl 4 rfl) ?_
    refine lv_imul hx hb dX3_block_42 ?_
    refine tp_i (y := nI (4 * j)) (pk_mul (4) (j)) ?_
    refine lv_iadd hx hb dX3_block_43 ?_
    refine tp_i (y := nI (64 * b + 4 * j)) (nI_add (64 * b) (4 * j)) ?_
    refine lv_iload hx hb dX3_block_44 (lv_at hl 0 rfl) ?_
    refine lv_iadd hx hb dX3_block_46 ?_
    refine tp_i (y := nI (64 * b + 4 * j + 0 + 1 + 1 + 1)) (nI_add (64 * b + 4 * j) (0 + 1 + 1 + 1)) ?_
    refine lv_iload_n hx hb dX3_block_47 rfl (lv_at hl 3 rfl) ?_
    refine kVp (Cn := "SmDigestDeskModel") (rest := [.int ((nI (((0 * 256 + pdN g n al (64 * b + 4 * j + 0)) * 256 + pdN g n al (64 * b + 4 * j + (0 + 1))) * 256 + pdN g n al (64 * b + 4 * j + (0 + 1 + 1)))) <<< ((8 : Int32) &&& 31)), .int (nI (j)), .ref mwa]) (na := 2) hx hb hml C h (c_X3_padded l G mo mou mtx mms mwa mva mra n z (64 * b + 4 * j + 0 + 1 + 1 + 1) al _ g hn (by omega) hal) (lw_V q327 q329 qs12 q20 q330) (by decide +kernel) rfl ⟨Nat.le_of_ble_eq_true rfl, Nat.le_of_ble_eq_true rfl⟩ 0 rfl rfl rfl [0, 1] (by decide) rfl hl.1 rfl (Nat.le_of_ble_eq_true rfl) ⟨Nat.le_of_ble_eq_true rfl, Nat.le_of_ble_eq_true rfl⟩ dX3_block_48 (fun r_51 hp => ?_)
    obtain rfl : r_51 = nI (pdN g n al (64 * b + 4 * j + (0 + 1 + 1 + 1))) := hp
    refine lv_ior hx hb dX3_block_51 ?_
    refine tp_i (y := nI ((((0 * 256 + pdN g n al (64 * b + 4 * j + 0)) * 256 + pdN g n al (64 * b + 4 * j + (0 + 1))) * 256 + pdN g n al (64 * b + 4 * j + (0 + 1 + 1))) * 256 + pdN g n al (64 * b + 4 * j + (0 + 1 + 1 + 1)))) (sh8or (by omega) (by omega)) ?_
    refine g_ist (j := j) hx hb C h 2 rfl (by omega) (by decide) dX3_block_52 (fun H locs h => ?_)
    have h : HS G A s _ _ [oM mo [.ref mou, .ref mtx, .int (nI (z)), .ref mms, .int (nI (n)), .ref mwa, .ref mva, .ref mra], aB G mms 16384 (g), aI G mwa 68 (upd (upd (upd (upd (upd w (j) (nI (0))) (j) (nI (0 * 256 + pdN g n al (64 * b + 4 * j + 0)))) (j) (nI ((0 * 256 + pdN g n al (64 * b + 4 * j + 0)) * 256 + pdN g n al (64 * b + 4 * j + (0 + 1))))) (j) (nI (((0 * 256 + pdN g n al (64 * b + 4 * j + 0)) * 256 + pdN g n al (64 * b + 4 * j + (0 + 1))) * 256 + pdN g n al (64 * b + 4 * j + (0 + 1 + 1))))) (j) (nI ((((0 * 256 + pdN g n al (64 * b + 4 * j + 0)) * 256 + pdN g n al (64 * b + 4 * j + (0 + 1))) * 256 + pdN g n al (64 * b + 4 * j + (0 + 1 + 1))) * 256 + pdN g n al (64 * b + 4 * j + (0 + 1 + 1 + 1))))), aI G mva 8 (v), aI G mra 8 (rr)] := h
    refine lv_iinc (v := nI (0 + 1 + 1 + 1 + 1)) (lv' := [(4, .int (nI (0 + 1 + 1 + 1 + 1))), (0, .ref mo), (1, .int (nI (64 * b))), (2, .int (nI (al))), (3, .int (nI (j)))]) hx hb dX3_block_53 hl (k := 0) rfl (ii1 (0 + 1 + 1 + 1)) (by decide) rfl (fun ls hl => ?_)
    refine lv_goto (tgt := 18) hx hb dX3_block_56 (by decide) ?_
    refine lv_iload hx hb dX3_block_18 (lv_at hl 0 rfl) ?_
    refine lv_iconst (v := nI (4)) hx hb dX3_block_20 (by decide) ?_
    refine lv_icmp_ge (tgt := 59) hx hb dX3_block_21 (by decide) (fun _ => ?_) (fun c_ => absurd (by decide +kernel) c_)
    refine lv_iinc (v := nI (j + 1)) (lv' := [(3, .int (nI (j + 1))), (4, .int (nI (0 + 1 + 1 + 1 + 1))), (0, .ref mo), (1, .int (nI (64 * b))), (2, .int (nI (al)))]) hx hb dX3_block_59 hl (k := 4) rfl (ii1 (j)) (by decide) rfl (fun ls hl => ?_)
    refine lv_goto (tgt := 2) hx hb dX3_block_62 (by decide) ?_
    exact ih (j + 1) (upd (upd (upd (upd (upd w (j) (nI (0))) (j) (nI (0 * 256 + pdN g n al (64 * b + 4 * j + 0)))) (j) (nI ((0 * 256 + pdN g n al (64 * b + 4 * j + 0)) * 256 + pdN g n al (64 * b + 4 * j + (0 + 1))))) (j) (nI (((0 * 256 + pdN g n al (64 * b + 4 * j + 0)) * 256 + pdN g n al (64 * b + 4 * j + (0 + 1))) * 256 + pdN g n al (64 * b + 4 * j + (0 + 1 + 1))))) (j) (nI ((((0 * 256 + pdN g n al (64 * b + 4 * j + 0)) * 256 + pdN g n al (64 * b + 4 * j + (0 + 1))) * 256 + pdN g n al (64 * b + 4 * j + (0 + 1 + 1))) * 256 + pdN g n al (64 * b + 4 * j + (0 + 1 + 1 + 1))))) H locs ls (by omega) (lt_s (fun i hi => (pk_un (by omega)).trans ((pk_un (by omega)).trans ((pk_un (by omega)).trans ((pk_un (by omega)).trans ((pk_un (by omega)).trans (hI i hi)))))) (pk_us.trans (mw_at g n al b j))) h (lv_sub hl [2, 3, 4, 0] rfl)
set_option maxHeartbeats 4000000 in
theorem lp2_X3_block {p : Program} {l : Launch} {e : Env} {s : State} {m : MethodId} {args : Array Value} {below : List Frame} {meth : Method} {c : Code} {Q : State → Prop} {G : GG} {A : Nat → Prop} (mo mou mtx mms mwa mva mra : Nat) (n z b al : Nat) (g : Nat → Int32) (hn : n ≤ 16384) (hal : al < 2 ^ 20) (hb4 : 64 * b + 64 ≤ al) (hx : p.tables.exec = Jvm.exec) (hb : c.code = cX3_block) (hml : c.maxLocals = 5) (C : CX G A s args m "SmDigestDeskModel") (v rr M : Nat → Int32)
    (kx : ∀ (w : Nat → Int32) (H : Heap) (locs : List Loc) (ls : Array Slot), (∀ i, i < 68 → w i = sWc M i) → HS G A s H locs [oM mo [.ref mou, .ref mtx, .int (nI (z)), .ref mms, .int (nI (n)), .ref mwa, .ref mva, .ref mra], aB G mms 16384 (g), aI G mwa 68 (w), aI G mva 8 (v), aI G mra 8 (rr)] → lv_has ls 5 [(0, .ref mo), (1, .int (nI (64 * b))), (2, .int (nI (al)))] → W p l e (rmc 3 76 0 0) s m args below meth c H locs 0 0 Q (F0 m 147 ls [])) :
    ∀ (k j : Nat) (w : Nat → Int32) (H : Heap) (locs : List Loc) (ls : Array Slot), 16 ≤ j → j + k = 68 → (∀ i, i < j → w i = sWc M i) → HS G A s H locs [oM mo [.ref mou, .ref mtx, .int (nI (z)), .ref mms, .int (nI (n)), .ref mwa, .ref mva, .ref mra], aB G mms 16384 (g), aI G mwa 68 (w), aI G mva 8 (v), aI G mra 8 (rr)] → lv_has ls 5 [(0, .ref mo), (1, .int (nI (64 * b))), (2, .int (nI (al))), (3, .int (nI (j)))] → W p l e (rmc 3 76 0 0) s m args below meth c H locs 0 0 Q (F0 m 68 ls []) := by
  intro k
  induction k with
  | zero =>
    intro j w H locs ls h16 hj hI h hl
    obtain rfl : j = 68 := by omega
    refine lv_iload_n hx hb dX3_block_68 rfl (lv_at hl 3 rfl) ?_
    refine lv_bipush (v := nI (68)) hx hb dX3_block_69 (by decide) ?_
    refine lv_icmp_ge (tgt := 147) hx hb dX3_block_71 (by decide) (fun _ => ?_) (fun c_ => absurd (Int32.le_refl _) c_)
    exact kx w H locs ls hI h (lv_sub hl [0, 1, 2] rfl)
  | succ k ih =>
    intro j w H locs ls h16 hj hI h hl
    refine lv_iload_n hx hb dX3_block_68 rfl (lv_at hl 3 rfl) ?_
    refine lv_bipush (v := nI (68)) hx hb dX3_block_69 (by decide) ?_
    refine lv_icmp_ge (tgt := 147) hx hb dX3_block_71 (by decide) (fun c_ => absurd c_ (nI_ge (a := j) (b := 68) (by omega) (by decide))) (fun _ => ?_)
    refine lv_aload_n hx hb dX3_block_74 rfl (lv_at hl 0 rfl) ?_
    refine g_get hx hb C h (ci := 2) in_X3 rfl 0 rfl 5 (by decide) q259 rfl rfl dX3_block_75 ?_
    refine lv_iload_n hx hb dX3_block_78 rfl (lv_at hl 3 rfl) ?_
    refine lv_aload_n hx hb dX3_block_79 rfl (lv_at hl 0 rfl) ?_
    refine g_get hx hb C h (ci := 2) in_X3 rfl 0 rfl 5 (by decide) q259 rfl rfl dX3_block_80 ?_
    refine lv_iload_n hx hb dX3_block_83 rfl (lv_at hl 3 rfl) ?_
    refine lv_bipush (v := nI (16)) hx hb dX3_block_84 (by decide) ?_
    refine lv_isub hx hb dX3_block_86 ?_
    refine tp_i (y := nI (j - 16)) (pk_sub (a := j) (b := 16) (by omega)) ?_
    refine g_ild (j := j - 16) hx hb C h 2 rfl (by omega) (by decide) dX3_block_87 ?_
    refine lv_aload_n hx hb dX3_block_88 rfl (lv_at hl 0 rfl) ?_
    refine g_get hx hb C h (ci := 2) in_X3 rfl 0 rfl 5 (by decide) q259 rfl rfl dX3_block_89 ?_
    refine lv_iload_n hx hb dX3_block_92 rfl (lv_at hl 3 rfl) ?_
    refine lv_bipush (v := nI (9)) hx hb dX3_block_93 (by decide) ?_
    refine lv_isub hx hb dX3_block_95 ?_
    refine tp_i (y := nI (j - 9)) (pk_sub (a := j) (b := 9) (by omega)) ?_
    refine g_ild (j := j - 9) hx hb C h 2 rfl (by omega) (by decide) dX3_block_96 ?_
    refine lv_ixor hx hb dX3_block_97 ?_
    refine lv_aload_n hx hb dX3_block_98 rfl (lv_at hl 0 rfl) ?_
    refine g_get hx hb C h (ci := 2) in_X3 rfl 0 rfl 5 (by decide) q259 rfl rfl dX3_block_99 ?_
    refine lv_iload_n hx hb dX3_block_102 rfl (lv_at hl 3 rfl) ?_
    refine lv_iconst (v := nI (3)) hx hb dX3_block_103 (by decide) ?_
    refine lv_isub hx hb dX3_block_104 ?_
    refine tp_i (y := nI (j - 3)) (pk_sub (a := j) (b := 3) (by omega)) ?_
    refine g_ild (j := j - 3) hx hb C h 2 rfl (by omega) (by decide) dX3_block_105 ?_
    refine lv_bipush (v := nI (15)) hx hb dX3_block_106 (by decide) ?_
    refine kSp (rest := [.int ((w (j - 16)) ^^^ (w (j - 9))), .int (nI (j)), .ref mwa]) (na := 2) hx hb hml C h (c_X3_turned l G 15 _ (w (j - 3)) (by decide)) (lw_S q333 q334 q20 q335) (by decide +kernel) rfl ⟨Nat.le_of_ble_eq_true rfl, Nat.le_of_ble_eq_true rfl⟩ [] (by decide) rfl hl.1 rfl (Nat.le_of_ble_eq_true rfl) ⟨Nat.le_of_ble_eq_true rfl, Nat.le_of_ble_eq_true rfl⟩ dX3_block_108 (fun r_111 hp => ?_)
    obtain rfl : r_111 = rl 15 17 (w (j - 3)) := hp.trans (rot_15 _)
    refine lv_ixor hx hb dX3_block_111 ?_
    refine kSp (rest := [.int (nI (j)), .ref mwa]) (na := 1) hx hb hml C h (c_X3_p1 l G _ (((w (j - 16)) ^^^ (w (j - 9))) ^^^ (rl 15 17 (w (j - 3))))) (lw_S q336 q337 q20 q338) (by decide +kernel) rfl ⟨Nat.le_of_ble_eq_true rfl, Nat.le_of_ble_eq_true rfl⟩ [] (by decide) rfl hl.1 rfl (Nat.le_of_ble_eq_true rfl) ⟨Nat.le_of_ble_eq_true rfl, Nat.le_of_ble_eq_true rfl⟩ dX3_block_112 (fun r_115 hp => ?_)
    obtain rfl : r_115 = sP1 (((w (j - 16)) ^^^ (w (j - 9))) ^^^ (rl 15 17 (w (j - 3)))) := hp
    refine lv_aload_n hx hb dX3_block_115 rfl (lv_at hl 0 rfl) ?_
    refine g_get hx hb C h (ci := 2) in_X3 rfl 0 rfl 5 (by decide) q259 rfl rfl dX3_block_116 ?_
    refine lv_iload_n hx hb dX3_block_119 rfl (lv_at hl 3 rfl) ?_
    refine lv_bipush (v := nI (13)) hx hb dX3_block_120 (by decide) ?_
    refine lv_isub hx hb dX3_block_122 ?_
    refine tp_i (y := nI (j - 13)) (pk_sub (a := j) (b := 13) (by omega)) ?_
    refine g_ild (j := j - 13) hx hb C h 2 rfl (by omega) (by decide) dX3_block_123 ?_
    refine lv_bipush (v := nI (7)) hx hb dX3_block_124 (by decide) ?_
    refine kSp (rest := [.int (sP1 (((w (j - 16)) ^^^ (w (j - 9))) ^^^ (rl 15 17 (w (j - 3))))), .int (nI (j)), .ref mwa]) (na := 2) hx hb hml C h (c_X3_turned l G 7 _ (w (j - 13)) (by decide)) (lw_S q333 q334 q20 q335) (by decide +kernel) rfl ⟨Nat.le_of_ble_eq_true rfl, Nat.le_of_ble_eq_true rfl⟩ [] (by decide) rfl hl.1 rfl (Nat.le_of_ble_eq_true rfl) ⟨Nat.le_of_ble_eq_true rfl, Nat.le_of_ble_eq_true rfl⟩ dX3_block_126 (fun r_129 hp => ?_)
    obtain rfl : r_129 = rl 7 25 (w (j - 13)) := hp.trans (rot_7 _)
    refine lv_ixor hx hb dX3_block_129 ?_
    refine lv_aload_n hx hb dX3_block_130 rfl (lv_at hl 0 rfl) ?_
    refine g_get hx hb C h (ci := 2) in_X3 rfl 0 rfl 5 (by decide) q259 rfl rfl dX3_block_131 ?_
    refine lv_iload_n hx hb dX3_block_134 rfl (lv_at hl 3 rfl) ?_
    refine lv_bipush (v := nI (6)) hx hb dX3_block_135 (by decide) ?_
    refine lv_isub hx hb dX3_block_137 ?_
    refine tp_i (y := nI (j - 6)) (pk_sub (a := j) (b := 6) (by omega)) ?_
    refine g_ild (j := j - 6) hx hb C h 2 rfl (by omega) (by decide) dX3_block_138 ?_
    refine lv_ixor hx hb dX3_block_139 ?_
    refine tp_i (y := sWc M j) ((show _ = sSt w j from rfl).trans ((sSt_congr h16 hI).trans (sWc_hi h16).symm)) ?_
    refine g_ist (j := j) hx hb C h 2 rfl (by omega) (by decide) dX3_block_140 (fun H locs h => ?_)
    have h : HS G A s _ _ [oM mo [.ref mou, .ref mtx, .int (nI (z)), .ref mms, .int (nI (n)), .ref mwa, .ref mva, .ref mra], aB G mms 16384 (g), aI G mwa 68 (upd w (j) (sWc M j)), aI G mva 8 (v), aI G mra 8 (rr)] := h
    refine lv_iinc (v := nI (j + 1)) (lv' := [(3, .int (nI (j + 1))), (0, .ref mo), (1, .int (nI (64 * b))), (2, .int (nI (al)))]) hx hb dX3_block_141 hl (k := 3) rfl (ii1 (j)) (by decide) rfl (fun ls hl => ?_)
    refine lv_goto (tgt := 68) hx hb dX3_block_144 (by decide) ?_
    exact ih (j + 1) (upd w j (sWc M j)) H locs ls (by omega) (by omega) (lt_s (fun i hi => (pk_un (by omega)).trans (hI i hi)) pk_us) h (lv_sub hl [1, 2, 3, 0] rfl)
set_option maxHeartbeats 4000000 in
theorem lp3_X3_block {p : Program} {l : Launch} {e : Env} {s : State} {m : MethodId} {args : Array Value} {below : List Frame} {meth : Method} {c : Code} {Q : State → Prop} {G : GG} {A : Nat → Prop} (mo mou mtx mms mwa mva mra : Nat) (n z b al : Nat) (g : Nat → Int32) (hn : n ≤ 16384) (hal : al < 2 ^ 20) (hb4 : 64 * b + 64 ≤ al) (hx : p.tables.exec = Jvm.exec) (hb : c.code = cX3_block) (hml : c.maxLocals = 5) (C : CX G A s args m "SmDigestDeskModel") (v w : Nat → Int32)
    (kx : ∀ (rr : Nat → Int32) (H : Heap) (locs : List Loc) (ls : Array Slot), (∀ i, i < 8 → rr i = v i) → HS G A s H locs [oM mo [.ref mou, .ref mtx, .int (nI (z)), .ref mms, .int (nI (n)), .ref mwa, .ref mva, .ref mra], aB G mms 16384 (g), aI G mwa 68 (w), aI G mva 8 (v), aI G mra 8 (rr)] → lv_has ls 5 [(0, .ref mo), (1, .int (nI (64 * b))), (2, .int (nI (al)))] → W p l e (rmc 3 76 0 0) s m args below meth c H locs 0 0 Q (F0 m 173 ls [])) :
    ∀ (k j : Nat) (rr : Nat → Int32) (H : Heap) (locs : List Loc) (ls : Array Slot), j + k = 8 → (∀ i, i < j → rr i = v i) → HS G A s H locs [oM mo [.ref mou, .ref mtx, .int (nI (z)), .ref mms, .int (nI (n)), .ref mwa, .ref mva, .ref mra], aB G mms 16384 (g), aI G mwa 68 (w), aI G mva 8 (v), aI G mra 8 (rr)] → lv_has ls 5 [(0, .ref mo), (1, .int (nI (64 * b))), (2, .int (nI (al))), (3, .int (nI (j)))] → W p l e (rmc 3 76 0 0) s m args below meth c H locs 0 0 Q (F0 m 149 ls []) := by
  intro k
  induction k with
  | zero =>
    intro j rr H locs ls hj hI h hl
    obtain rfl : j = 8 := by omega
    refine lv_iload_n hx hb dX3_block_149 rfl (lv_at hl 3 rfl) ?_
    refine lv_bipush (v := nI (8)) hx hb dX3_block_150 (by decide) ?_
    refine lv_icmp_ge (tgt := 173) hx hb dX3_block_152 (by decide) (fun _ => ?_) (fun c_ => absurd (Int32.le_refl _) c_)
    exact kx rr H locs ls hI h (lv_sub hl [0, 1, 2] rfl)
  | succ k ih =>
    intro j rr H locs ls hj hI h hl
    refine lv_iload_n hx hb dX3_block_149 rfl (lv_at hl 3 rfl) ?_
    refine lv_bipush (v := nI (8)) hx hb dX3_block_150 (by decide) ?_
    refine lv_icmp_ge (tgt := 173) hx hb dX3_block_152 (by decide) (fun c_ => absurd c_ (nI_ge (a := j) (b := 8) (by omega) (by decide))) (fun _ => ?_)
    refine lv_aload_n hx hb dX3_block_155 rfl (lv_at hl 0 rfl) ?_
    refine g_get hx hb C h (ci := 2) in_X3 rfl 0 rfl 7 (by decide) q261 rfl rfl dX3_block_156 ?_
    refine lv_iload_n hx hb dX3_block_159 rfl (lv_at hl 3 rfl) ?_
    refine lv_aload_n hx hb dX3_block_160 rfl (lv_at hl 0 rfl) ?_
    refine g_get hx hb C h (ci := 2) in_X3 rfl 0 rfl 6 (by decide) q260 rfl rfl dX3_block_161 ?_
    refine lv_iload_n hx hb dX3_block_164 rfl (lv_at hl 3 rfl) ?_
    refine g_ild (j := j) hx hb C h 3 rfl (by omega) (by decide) dX3_block_165 ?_
    refine g_ist (j := j) hx hb C h 4 rfl (by omega) (by decide) dX3_block_166 (fun H locs h => ?_)
    have h : HS G A s _ _ [oM mo [.ref mou, .ref mtx, .int (nI (z)), .ref mms, .int (nI (n)), .ref mwa, .ref mva, .ref mra], aB G mms 16384 (g), aI G mwa 68 (w), aI G mva 8 (v), aI G mra 8 (upd rr (j) (v (j)))] := h
    refine lv_iinc (v := nI (j + 1)) (lv' := [(3, .int (nI (j + 1))), (0, .ref mo), (1, .int (nI (64 * b))), (2, .int (nI (al)))]) hx hb dX3_block_167 hl (k := 3) rfl (ii1 (j)) (by decide) rfl (fun ls hl => ?_)
    refine lv_goto (tgt := 149) hx hb dX3_block_170 (by decide) ?_
    exact ih (j + 1) (upd rr j (v j)) H locs ls (by omega) (lt_s (fun i hi => (pk_un (by omega)).trans (hI i hi)) pk_us) h (lv_sub hl [1, 2, 3, 0] rfl)
set_option maxHeartbeats 4000000 in
theorem lp4_X3_block {p : Program} {l : Launch} {e : Env} {s : State} {m : MethodId} {args : Array Value} {below : List Frame} {meth : Method} {c : Code} {Q : State → Prop} {G : GG} {A : Nat → Prop} (mo mou mtx mms mwa mva mra : Nat) (n z b al : Nat) (g : Nat → Int32) (hn : n ≤ 16384) (hal : al < 2 ^ 20) (hb4 : 64 * b + 64 ≤ al) (hx : p.tables.exec = Jvm.exec) (hb : c.code = cX3_block) (hml : c.maxLocals = 5) (C : CX G A s args m "SmDigestDeskModel") (v w : Nat → Int32)
    (kx : ∀ (rr : Nat → Int32) (H : Heap) (locs : List Loc) (ls : Array Slot), v8 rr = rnds w 64 (v8 v) → HS G A s H locs [oM mo [.ref mou, .ref mtx, .int (nI (z)), .ref mms, .int (nI (n)), .ref mwa, .ref mva, .ref mra], aB G mms 16384 (g), aI G mwa 68 (w), aI G mva 8 (v), aI G mra 8 (rr)] → lv_has ls 5 [(0, .ref mo), (1, .int (nI (64 * b))), (2, .int (nI (al)))] → W p l e (rmc 3 76 0 0) s m args below meth c H locs 0 0 Q (F0 m 192 ls [])) :
    ∀ (k j : Nat) (rr : Nat → Int32) (H : Heap) (locs : List Loc) (ls : Array Slot), j + k = 64 → v8 rr = rnds w j (v8 v) → HS G A s H locs [oM mo [.ref mou, .ref mtx, .int (nI (z)), .ref mms, .int (nI (n)), .ref mwa, .ref mva, .ref mra], aB G mms 16384 (g), aI G mwa 68 (w), aI G mva 8 (v), aI G mra 8 (rr)] → lv_has ls 5 [(0, .ref mo), (1, .int (nI (64 * b))), (2, .int (nI (al))), (3, .int (nI (j)))] → W p l e (rmc 3 76 0 0) s m args below meth c H locs 0 0 Q (F0 m 175 ls []) := by
  intro k
  induction k with
  | zero =>
    intro j rr H locs ls hj hI h hl
    obtain rfl : j = 64 := by omega
    refine lv_iload_n hx hb dX3_block_175 rfl (lv_at hl 3 rfl) ?_
    refine lv_bipush (v := nI (64)) hx hb dX3_block_176 (by decide) ?_
    refine lv_icmp_ge (tgt := 192) hx hb dX3_block_178 (by decide) (fun _ => ?_) (fun c_ => absurd (Int32.le_refl _) c_)
    exact kx rr H locs ls hI h (lv_sub hl [0, 1, 2] rfl)
  | succ k ih =>
    intro j rr H locs ls hj hI h hl
    refine lv_iload_n hx hb dX3_block_175 rfl (lv_at hl 3 rfl) ?_
    refine lv_bipush (v := nI (64)) hx hb dX3_block_176 (by decide) ?_
    refine lv_icmp_ge (tgt := 192) hx hb dX3_block_178 (by decide) (fun c_ => absurd c_ (nI_ge (a := j) (b := 64) (by omega) (by decide))) (fun _ => ?_)
    refine lv_aload_n hx hb dX3_block_181 rfl (lv_at hl 0 rfl) ?_
    refine lv_iload_n hx hb dX3_block_182 rfl (lv_at hl 3 rfl) ?_
    refine kVv (Cn := "SmDigestDeskModel") (wr := [aB G mms 16384 (g), aI G mva 8 (v)]) (rest := []) (na := 1) hx hb hml C h (c_X3_round l G mo mou mtx mms mwa mva mra n z j _ w rr (by omega)) (lw_V q339 q341 qs13 q20 q342) (by decide +kernel) rfl ⟨Nat.le_of_ble_eq_true rfl, Nat.le_of_ble_eq_true rfl⟩ 0 rfl rfl rfl [0, 2, 4] (by decide) rfl [1, 3] (by decide) rfl (by decide) hl.1 rfl (Nat.le_of_ble_eq_true rfl) ⟨Nat.le_of_ble_eq_true rfl, Nat.le_of_ble_eq_true rfl⟩ dX3_block_183 (fun rr1 H locs hp h => ?_)
    have h : HS G A s _ _ [aB G mms 16384 (g), aI G mva 8 (v), oM mo [.ref mou, .ref mtx, .int (nI (z)), .ref mms, .int (nI (n)), .ref mwa, .ref mva, .ref mra], aI G mwa 68 (w), aI G mra 8 (rr1)] := h
    have h := h.sub (ws' := [oM mo [.ref mou, .ref mtx, .int (nI (z)), .ref mms, .int (nI (n)), .ref mwa, .ref mva, .ref mra], aB G mms 16384 (g), aI G mwa 68 (w), aI G mva 8 (v), aI G mra 8 (rr1)]) [2, 0, 3, 1, 4] (by decide) rfl
    refine lv_iinc (v := nI (j + 1)) (lv' := [(3, .int (nI (j + 1))), (0, .ref mo), (1, .int (nI (64 * b))), (2, .int (nI (al)))]) hx hb dX3_block_186 hl (k := 3) rfl (ii1 (j)) (by decide) rfl (fun ls hl => ?_)
    refine lv_goto (tgt := 175) hx hb dX3_block_189 (by decide) ?_
    exact ih (j + 1) rr1 H locs ls (by omega) (hp.trans (by rw [hI]; rfl)) h (lv_sub hl [1, 2, 3, 0] rfl)
set_option maxHeartbeats 4000000 in
theorem lp5_X3_block {p : Program} {l : Launch} {e : Env} {s : State} {m : MethodId} {args : Array Value} {below : List Frame} {meth : Method} {c : Code} {Q : State → Prop} {G : GG} {A : Nat → Prop} (mo mou mtx mms mwa mva mra : Nat) (n z b al : Nat) (g : Nat → Int32) (hn : n ≤ 16384) (hal : al < 2 ^ 20) (hb4 : 64 * b + 64 ≤ al) (hx : p.tables.exec = Jvm.exec) (hb : c.code = cX3_block) (hml : c.maxLocals = 5) (C : CX G A s args m "SmDigestDeskModel") (v w rr : Nat → Int32)
    (kx : ∀ (v1 : Nat → Int32) (H : Heap) (locs : List Loc) (ls : Array Slot), (∀ i, i < 8 → v1 i = v i ^^^ rr i) → HS G A s H locs [oM mo [.ref mou, .ref mtx, .int (nI (z)), .ref mms, .int (nI (n)), .ref mwa, .ref mva, .ref mra], aB G mms 16384 (g), aI G mwa 68 (w), aI G mva 8 (v1), aI G mra 8 (rr)] → lv_has ls 5 [(0, .ref mo), (1, .int (nI (64 * b))), (2, .int (nI (al)))] → W p l e (rmc 3 76 0 0) s m args below meth c H locs 0 0 Q (F0 m 221 ls [])) :
    ∀ (k j : Nat) (v1 : Nat → Int32) (H : Heap) (locs : List Loc) (ls : Array Slot), j + k = 8 → (∀ i, i < j → v1 i = v i ^^^ rr i) → (∀ i, j ≤ i → v1 i = v i) → HS G A s H locs [oM mo [.ref mou, .ref mtx, .int (nI (z)), .ref mms, .int (nI (n)), .ref mwa, .ref mva, .ref mra], aB G mms 16384 (g), aI G mwa 68 (w), aI G mva 8 (v1), aI G mra 8 (rr)] → lv_has ls 5 [(0, .ref mo), (1, .int (nI (64 * b))), (2, .int (nI (al))), (3, .int (nI (j)))] → W p l e (rmc 3 76 0 0) s m args below meth c H locs 0 0 Q (F0 m 194 ls []) := by
  intro k
  induction k with
  | zero =>
    intro j v1 H locs ls hj hI hJ h hl
    obtain rfl : j = 8 := by omega
    refine lv_iload_n hx hb dX3_block_194 rfl (lv_at hl 3 rfl) ?_
    refine lv_bipush (v := nI (8)) hx hb dX3_block_195 (by decide) ?_
    refine lv_icmp_ge (tgt := 221) hx hb dX3_block_197 (by decide) (fun _ => ?_) (fun c_ => absurd (Int32.le_refl _) c_)
    exact kx v1 H locs ls hI h (lv_sub hl [0, 1, 2] rfl)
  | succ k ih =>
    intro j v1 H locs ls hj hI hJ h hl
    refine lv_iload_n hx hb dX3_block_194 rfl (lv_at hl 3 rfl) ?_
    refine lv_bipush (v := nI (8)) hx hb dX3_block_195 (by decide) ?_
    refine lv_icmp_ge (tgt := 221) hx hb dX3_block_197 (by decide) (fun c_ => absurd c_ (nI_ge (a := j) (b := 8) (by omega) (by decide))) (fun _ => ?_)
    refine lv_aload_n hx hb dX3_block_200 rfl (lv_at hl 0 rfl) ?_
    refine g_get hx hb C h (ci := 2) in_X3 rfl 0 rfl 6 (by decide) q260 rfl rfl dX3_block_201 ?_
    refine lv_iload_n hx hb dX3_block_204 rfl (lv_at hl 3 rfl) ?_
    refine lv_dup2_11 hx hb dX3_block_205 rfl rfl ?_
    refine g_ild (j := j) hx hb C h 3 rfl (by omega) (by decide) dX3_block_206 ?_
    refine tp_i (y := v j) (hJ j (Nat.le_refl j)) ?_
    refine lv_aload_n hx hb dX3_block_207 rfl (lv_at hl 0 rfl) ?_
    refine g_get hx hb C h (ci := 2) in_X3 rfl 0 rfl 7 (by decide) q261 rfl rfl dX3_block_208 ?_
    refine lv_iload_n hx hb dX3_block_211 rfl (lv_at hl 3 rfl) ?_
    refine g_ild (j := j) hx hb C h 4 rfl (by omega) (by decide) dX3_block_212 ?_
    refine lv_ixor hx hb dX3_block_213 ?_
    refine g_ist (j := j) hx hb C h 3 rfl (by omega) (by decide) dX3_block_214 (fun H locs h => ?_)
    have h : HS G A s _ _ [oM mo [.ref mou, .ref mtx, .int (nI (z)), .ref mms, .int (nI (n)), .ref mwa, .ref mva, .ref mra], aB G mms 16384 (g), aI G mwa 68 (w), aI G mva 8 (upd v1 (j) ((v j) ^^^ (rr (j)))), aI G mra 8 (rr)] := h
    refine lv_iinc (v := nI (j + 1)) (lv' := [(3, .int (nI (j + 1))), (0, .ref mo), (1, .int (nI (64 * b))), (2, .int (nI (al)))]) hx hb dX3_block_215 hl (k := 3) rfl (ii1 (j)) (by decide) rfl (fun ls hl => ?_)
    refine lv_goto (tgt := 194) hx hb dX3_block_218 (by decide) ?_
    exact ih (j + 1) (upd v1 (j) ((v j) ^^^ (rr (j)))) H locs ls (by omega) (lt_s (fun i hi => (pk_un (by omega)).trans (hI i hi)) pk_us) (fun i hi => (pk_un (by omega)).trans (hJ i (by omega))) h (lv_sub hl [1, 2, 3, 0] rfl)
set_option maxHeartbeats 4000000 in
/-- a block of the padded message into the chain v -/
theorem c_X3_block (l : Launch) (G : GG) (mo mou mtx mms mwa mva mra : Nat) (n z b al sz : Nat) (g w0 v r0 : Nat → Int32) (hn : n ≤ 16384) (hal : al < 2 ^ 20) (hb4 : 64 * b + 64 ≤ al) : CtV l G yX3_block cX3_block 5 3 76 0 0 [.ref mo, .int (nI (64 * b)), .int (nI (al))] [oM mo [.ref mou, .ref mtx, .int (nI (z)), .ref mms, .int (nI (n)), .ref mwa, .ref mva, .ref mra], aB G mms 16384 (g), aI G mwa 68 (w0), aI G mva 8 (v), aI G mra 8 (r0)] sz (fun u : (Nat → Int32) × (Nat → Int32) × (Nat → Int32) => v8 u.2.1 = cmp8 (fun i => sqw g n al (16 * b + i)) (v8 v)) (fun u => [oM mo [.ref mou, .ref mtx, .int (nI (z)), .ref mms, .int (nI (n)), .ref mwa, .ref mva, .ref mra], aB G mms 16384 (g), aI G mwa 68 (u.1), aI G mva 8 (u.2.1), aI G mra 8 (u.2.2)]) := by
  refine entV "SmDigestDeskModel" rfl (by decide +kernel) (Nat.le_of_ble_eq_true rfl) ?_
  intro p e s m below meth c A ls hx hb hr hk hml hin hsz C h hl
  have hl : lv_has ls 5 [(0, .ref mo), (1, .int (nI (64 * b))), (2, .int (nI (al)))] := hl
  refine lv_iconst (v := nI (0)) hx hb dX3_block_0 (by decide) ?_
  refine lv_istore_n (lv' := [(3, .int (nI (0))), (0, .ref mo), (1, .int (nI (64 * b))), (2, .int (nI (al)))]) hx hb dX3_block_1 rfl hl (by decide) rfl (fun ls hl => ?_)
  refine lp1_X3_block mo mou mtx mms mwa mva mra n z b al g hn hal hb4 hx hb hml C v r0 (fun w H locs ls hw h hl => ?_) 16 0 w0 _ _ ls rfl lt_0 h (lv_sub hl [1, 2, 3, 0] rfl)
  refine lv_bipush (v := nI (16)) hx hb dX3_block_65 (by decide) ?_
  refine lv_istore_n (lv' := [(3, .int (nI (16))), (0, .ref mo), (1, .int (nI (64 * b))), (2, .int (nI (al)))]) hx hb dX3_block_67 rfl hl (by decide) rfl (fun ls hl => ?_)
  refine lp2_X3_block mo mou mtx mms mwa mva mra n z b al g hn hal hb4 hx hb hml C v r0 (fun i => sqw g n al (16 * b + i)) (fun w H locs ls hw h hl => ?_) 52 16 w _ _ ls (by decide) rfl (fun i hi => (hw i hi).trans (sWc_lo (M := (fun i => sqw g n al (16 * b + i))) hi).symm) h (lv_sub hl [1, 2, 3, 0] rfl)
  refine lv_iconst (v := nI (0)) hx hb dX3_block_147 (by decide) ?_
  refine lv_istore_n (lv' := [(3, .int (nI (0))), (0, .ref mo), (1, .int (nI (64 * b))), (2, .int (nI (al)))]) hx hb dX3_block_148 rfl hl (by decide) rfl (fun ls hl => ?_)
  refine lp3_X3_block mo mou mtx mms mwa mva mra n z b al g hn hal hb4 hx hb hml C v w (fun rr H locs ls hr1 h hl => ?_) 8 0 r0 _ _ ls rfl lt_0 h (lv_sub hl [1, 2, 3, 0] rfl)
  refine lv_iconst (v := nI (0)) hx hb dX3_block_173 (by decide) ?_
  refine lv_istore_n (lv' := [(3, .int (nI (0))), (0, .ref mo), (1, .int (nI (64 * b))), (2, .int (nI (al)))]) hx hb dX3_block_174 rfl hl (by decide) rfl (fun ls hl => ?_)
  refine lp4_X3_block mo mou mtx mms mwa mva mra n z b al g hn hal hb4 hx hb hml C v w (fun rr H locs ls hr2 h hl => ?_) 64 0 rr _ _ ls rfl (v8_congr hr1) h (lv_sub hl [1, 2, 3, 0] rfl)
  refine lv_iconst (v := nI (0)) hx hb dX3_block_192 (by decide) ?_
  refine lv_istore_n (lv' := [(3, .int (nI (0))), (0, .ref mo), (1, .int (nI (64 * b))), (2, .int (nI (al)))]) hx hb dX3_block_193 rfl hl (by decide) rfl (fun ls hl => ?_)
  refine lp5_X3_block mo mou mtx mms mwa mva mra n z b al g hn hal hb4 hx hb hml C v w rr (fun v1 H locs ls hv1 h hl => ?_) 8 0 v _ _ ls rfl lt_0 (fun i _ => rfl) h (lv_sub hl [1, 2, 3, 0] rfl)
  exact retV hx hb hr hk (w, v1, rr) h ((v8_congr (v' := fun i => v i ^^^ rr i) hv1).trans (by show x8 (v8 v) (v8 rr) = _; rw [hr2, rnds_congr 64 hw]; rfl)) dX3_block_221
set_option maxHeartbeats 4000000 in
theorem lp1_X3_close {p : Program} {l : Launch} {e : Env} {s : State} {m : MethodId} {args : Array Value} {below : List Frame} {meth : Method} {c : Code} {Q : State → Prop} {G : GG} {A : Nat → Prop} (mo mou mtx mms mwa mva mra : Nat) (n z : Nat) (g of : Nat → Int32) (hn : n ≤ 16384) (hx : p.tables.exec = Jvm.exec) (hb : c.code = cX3_close) (hml : c.maxLocals = 3) (C : CX G A s args m "SmDigestDeskModel") (w rr : Nat → Int32)
    (kx : ∀ (v : Nat → Int32) (H : Heap) (locs : List Loc) (ls : Array Slot), (∀ i, i < 8 → v i = ivf i) → HS G A s H locs [oM mo [.ref mou, .ref mtx, .int (nI (z)), .ref mms, .int (nI (n)), .ref mwa, .ref mva, .ref mra], aB G mou 64 (of), aB G mms 16384 (g), aI G mwa 68 (w), aI G mva 8 (v), aI G mra 8 (rr)] → lv_has ls 3 [(0, .ref mo), (1, .int (nI (64 * ((n + 8) / 64 + 1))))] → W p l e (rmc 4 100 0 0) s m args below meth c H locs 0 0 Q (F0 m 41 ls [])) :
    ∀ (k j : Nat) (v : Nat → Int32) (H : Heap) (locs : List Loc) (ls : Array Slot), j + k = 8 → (∀ i, i < j → v i = ivf i) → HS G A s H locs [oM mo [.ref mou, .ref mtx, .int (nI (z)), .ref mms, .int (nI (n)), .ref mwa, .ref mva, .ref mra], aB G mou 64 (of), aB G mms 16384 (g), aI G mwa 68 (w), aI G mva 8 (v), aI G mra 8 (rr)] → lv_has ls 3 [(0, .ref mo), (1, .int (nI (64 * ((n + 8) / 64 + 1)))), (2, .int (nI (j)))] → W p l e (rmc 4 100 0 0) s m args below meth c H locs 0 0 Q (F0 m 19 ls []) := by
  intro k
  induction k with
  | zero =>
    intro j v H locs ls hj hI h hl
    obtain rfl : j = 8 := by omega
    refine lv_iload_n hx hb dX3_close_19 rfl (lv_at hl 2 rfl) ?_
    refine lv_bipush (v := nI (8)) hx hb dX3_close_20 (by decide) ?_
    refine lv_icmp_ge (tgt := 41) hx hb dX3_close_22 (by decide) (fun _ => ?_) (fun c_ => absurd (Int32.le_refl _) c_)
    exact kx v H locs ls hI h (lv_sub hl [0, 1] rfl)
  | succ k ih =>
    intro j v H locs ls hj hI h hl
    refine lv_iload_n hx hb dX3_close_19 rfl (lv_at hl 2 rfl) ?_
    refine lv_bipush (v := nI (8)) hx hb dX3_close_20 (by decide) ?_
    refine lv_icmp_ge (tgt := 41) hx hb dX3_close_22 (by decide) (fun c_ => absurd c_ (nI_ge (a := j) (b := 8) (by omega) (by decide))) (fun _ => ?_)
    refine lv_aload_n hx hb dX3_close_25 rfl (lv_at hl 0 rfl) ?_
    refine g_get hx hb C h (ci := 2) in_X3 rfl 0 rfl 6 (by decide) q260 rfl rfl dX3_close_26 ?_
    refine lv_iload_n hx hb dX3_close_29 rfl (lv_at hl 2 rfl) ?_
    refine lv_iload_n hx hb dX3_close_30 rfl (lv_at hl 2 rfl) ?_
    refine kSp (rest := [.int (nI (j)), .ref mva]) (na := 1) hx hb hml C h (c_X3_first l G j _ (by omega)) (lw_S q312 q313 q20 q314) (by decide +kernel) rfl ⟨Nat.le_of_ble_eq_true rfl, Nat.le_of_ble_eq_true rfl⟩ [] (by decide) rfl hl.1 rfl (Nat.le_of_ble_eq_true rfl) ⟨Nat.le_of_ble_eq_true rfl, Nat.le_of_ble_eq_true rfl⟩ dX3_close_31 (fun r_34 hp => ?_)
    obtain rfl : r_34 = ivf j := hp
    refine g_ist (j := j) hx hb C h 4 rfl (by omega) (by decide) dX3_close_34 (fun H locs h => ?_)
    have h : HS G A s _ _ [oM mo [.ref mou, .ref mtx, .int (nI (z)), .ref mms, .int (nI (n)), .ref mwa, .ref mva, .ref mra], aB G mou 64 (of), aB G mms 16384 (g), aI G mwa 68 (w), aI G mva 8 (upd v (j) (ivf j)), aI G mra 8 (rr)] := h
    refine lv_iinc (v := nI (j + 1)) (lv' := [(2, .int (nI (j + 1))), (0, .ref mo), (1, .int (nI (64 * ((n + 8) / 64 + 1))))]) hx hb dX3_close_35 hl (k := 2) rfl (ii1 (j)) (by decide) rfl (fun ls hl => ?_)
    refine lv_goto (tgt := 19) hx hb dX3_close_38 (by decide) ?_
    exact ih (j + 1) (upd v j (ivf j)) H locs ls (by omega) (lt_s (fun i hi => (pk_un (by omega)).trans (hI i hi)) pk_us) h (lv_sub hl [1, 2, 0] rfl)
set_option maxHeartbeats 4000000 in
theorem lp2_X3_close {p : Program} {l : Launch} {e : Env} {s : State} {m : MethodId} {args : Array Value} {below : List Frame} {meth : Method} {c : Code} {Q : State → Prop} {G : GG} {A : Nat → Prop} (mo mou mtx mms mwa mva mra : Nat) (n z : Nat) (g of : Nat → Int32) (hn : n ≤ 16384) (hx : p.tables.exec = Jvm.exec) (hb : c.code = cX3_close) (hml : c.maxLocals = 3) (C : CX G A s args m "SmDigestDeskModel")
    (kx : ∀ (w v rr : Nat → Int32) (H : Heap) (locs : List Loc) (ls : Array Slot), v8 v = chn (sqw g n (64 * ((n + 8) / 64 + 1))) ((n + 8) / 64 + 1) → HS G A s H locs [oM mo [.ref mou, .ref mtx, .int (nI (z)), .ref mms, .int (nI (n)), .ref mwa, .ref mva, .ref mra], aB G mou 64 (of), aB G mms 16384 (g), aI G mwa 68 (w), aI G mva 8 (v), aI G mra 8 (rr)] → lv_has ls 3 [(0, .ref mo), (1, .int (nI (64 * ((n + 8) / 64 + 1))))] → W p l e (rmc 4 100 0 0) s m args below meth c H locs 0 0 Q (F0 m 60 ls [])) :
    ∀ (k b : Nat) (w v rr : Nat → Int32) (H : Heap) (locs : List Loc) (ls : Array Slot), b + k = ((n + 8) / 64 + 1) → v8 v = chn (sqw g n (64 * ((n + 8) / 64 + 1))) b → HS G A s H locs [oM mo [.ref mou, .ref mtx, .int (nI (z)), .ref mms, .int (nI (n)), .ref mwa, .ref mva, .ref mra], aB G mou 64 (of), aB G mms 16384 (g), aI G mwa 68 (w), aI G mva 8 (v), aI G mra 8 (rr)] → lv_has ls 3 [(0, .ref mo), (1, .int (nI (64 * ((n + 8) / 64 + 1)))), (2, .int (nI (64 * b)))] → W p l e (rmc 4 100 0 0) s m args below meth c H locs 0 0 Q (F0 m 43 ls []) := by
  intro k
  induction k with
  | zero =>
    intro b w v rr H locs ls hj hI h hl
    obtain rfl : b = ((n + 8) / 64 + 1) := by omega
    refine lv_iload_n hx hb dX3_close_43 rfl (lv_at hl 2 rfl) ?_
    refine lv_iload_n hx hb dX3_close_44 rfl (lv_at hl 1 rfl) ?_
    refine lv_icmp_ge (tgt := 60) hx hb dX3_close_45 (by decide) (fun _ => ?_) (fun c_ => absurd (Int32.le_refl _) c_)
    exact kx w v rr H locs ls hI h (lv_sub hl [0, 1] rfl)
  | succ k ih =>
    intro b w v rr H locs ls hj hI h hl
    refine lv_iload_n hx hb dX3_close_43 rfl (lv_at hl 2 rfl) ?_
    refine lv_iload_n hx hb dX3_close_44 rfl (lv_at hl 1 rfl) ?_
    refine lv_icmp_ge (tgt := 60) hx hb dX3_close_45 (by decide) (fun c_ => absurd c_ (nI_ge (a := 64 * b) (b := 64 * ((n + 8) / 64 + 1)) (by omega) (by omega))) (fun _ => ?_)
    refine lv_aload_n hx hb dX3_close_48 rfl (lv_at hl 0 rfl) ?_
    refine lv_iload_n hx hb dX3_close_49 rfl (lv_at hl 2 rfl) ?_
    refine lv_iload_n hx hb dX3_close_50 rfl (lv_at hl 1 rfl) ?_
    refine kVv (Cn := "SmDigestDeskModel") (wr := [aB G mou 64 (of)]) (rest := []) (na := 2) hx hb hml C h (c_X3_block l G mo mou mtx mms mwa mva mra n z b (64 * ((n + 8) / 64 + 1)) _ g w v rr hn (by omega) (by omega)) (lw_V q323 q325 qs11 q20 q326) (by decide +kernel) rfl ⟨Nat.le_of_ble_eq_true rfl, Nat.le_of_ble_eq_true rfl⟩ 0 rfl rfl rfl [0, 2, 3, 4, 5] (by decide) rfl [1] (by decide) rfl (by decide) hl.1 rfl (Nat.le_of_ble_eq_true rfl) ⟨Nat.le_of_ble_eq_true rfl, Nat.le_of_ble_eq_true rfl⟩ dX3_close_51 (fun u H locs hp h => ?_)
    obtain ⟨w1, v1, rr1⟩ := u
    have h : HS G A s _ _ [aB G mou 64 (of), oM mo [.ref mou, .ref mtx, .int (nI (z)), .ref mms, .int (nI (n)), .ref mwa, .ref mva, .ref mra], aB G mms 16384 (g), aI G mwa 68 (w1), aI G mva 8 (v1), aI G mra 8 (rr1)] := h
    have h := h.sub (ws' := [oM mo [.ref mou, .ref mtx, .int (nI (z)), .ref mms, .int (nI (n)), .ref mwa, .ref mva, .ref mra], aB G mou 64 (of), aB G mms 16384 (g), aI G mwa 68 (w1), aI G mva 8 (v1), aI G mra 8 (rr1)]) [1, 0, 2, 3, 4, 5] (by decide) rfl
    refine lv_iinc (v := nI (64 * b + 64)) (lv' := [(2, .int (nI (64 * b + 64))), (0, .ref mo), (1, .int (nI (64 * ((n + 8) / 64 + 1))))]) hx hb dX3_close_54 hl (k := 2) rfl (ii64 (64 * b)) (by decide) rfl (fun ls hl => ?_)
    refine lv_goto (tgt := 43) hx hb dX3_close_57 (by decide) ?_
    exact ih (b + 1) w1 v1 rr1 H locs ls (by omega) (hp.trans (by rw [hI]; rfl)) h (lv_sub hl [1, 2, 0] rfl)
set_option maxHeartbeats 4000000 in
theorem lp3_X3_close {p : Program} {l : Launch} {e : Env} {s : State} {m : MethodId} {args : Array Value} {below : List Frame} {meth : Method} {c : Code} {Q : State → Prop} {G : GG} {A : Nat → Prop} (mo mou mtx mms mwa mva mra : Nat) (n z : Nat) (g of : Nat → Int32) (hn : n ≤ 16384) (hx : p.tables.exec = Jvm.exec) (hb : c.code = cX3_close) (hml : c.maxLocals = 3) (C : CX G A s args m "SmDigestDeskModel") (w v rr : Nat → Int32)
    (kx : ∀ (H : Heap) (locs : List Loc) (ls : Array Slot), HS G A s H locs [oM mo [.ref mou, .ref mtx, .int (nI (z)), .ref mms, .int (nI (n)), .ref mwa, .ref mva, .ref mra], aB G mou 64 (upk of 0 (obs v) 32), aB G mms 16384 (g), aI G mwa 68 (w), aI G mva 8 (v), aI G mra 8 (rr)] → lv_has ls 3 [(0, .ref mo), (1, .int (nI (64 * ((n + 8) / 64 + 1))))] → W p l e (rmc 4 100 0 0) s m args below meth c H locs 0 0 Q (F0 m 99 ls [])) :
    ∀ (k j : Nat) (H : Heap) (locs : List Loc) (ls : Array Slot), j + k = 32 → HS G A s H locs [oM mo [.ref mou, .ref mtx, .int (nI (z)), .ref mms, .int (nI (n)), .ref mwa, .ref mva, .ref mra], aB G mou 64 (upk of 0 (obs v) j), aB G mms 16384 (g), aI G mwa 68 (w), aI G mva 8 (v), aI G mra 8 (rr)] → lv_has ls 3 [(0, .ref mo), (1, .int (nI (64 * ((n + 8) / 64 + 1)))), (2, .int (nI (j)))] → W p l e (rmc 4 100 0 0) s m args below meth c H locs 0 0 Q (F0 m 62 ls []) := by
  intro k
  induction k with
  | zero =>
    intro j H locs ls hj h hl
    obtain rfl : j = 32 := by omega
    refine lv_iload_n hx hb dX3_close_62 rfl (lv_at hl 2 rfl) ?_
    refine lv_bipush (v := nI (32)) hx hb dX3_close_63 (by decide) ?_
    refine lv_icmp_ge (tgt := 99) hx hb dX3_close_65 (by decide) (fun _ => ?_) (fun c_ => absurd (Int32.le_refl _) c_)
    exact kx H locs ls h (lv_sub hl [0, 1] rfl)
  | succ k ih =>
    intro j H locs ls hj h hl
    refine lv_iload_n hx hb dX3_close_62 rfl (lv_at hl 2 rfl) ?_
    refine lv_bipush (v := nI (32)) hx hb dX3_close_63 (by decide) ?_
    refine lv_icmp_ge (tgt := 99) hx hb dX3_close_65 (by decide) (fun c_ => absurd c_ (nI_ge (a := j) (b := 32) (by omega) (by decide))) (fun _ => ?_)
    refine lv_aload_n hx hb dX3_close_68 rfl (lv_at hl 0 rfl) ?_
    refine g_get hx hb C h (ci := 2) in_X3 rfl 0 rfl 0 (by decide) q254 rfl rfl dX3_close_69 ?_
    refine lv_iload_n hx hb dX3_close_72 rfl (lv_at hl 2 rfl) ?_
    refine lv_aload_n hx hb dX3_close_73 rfl (lv_at hl 0 rfl) ?_
    refine g_get hx hb C h (ci := 2) in_X3 rfl 0 rfl 6 (by decide) q260 rfl rfl dX3_close_74 ?_
    refine lv_iload_n hx hb dX3_close_77 rfl (lv_at hl 2 rfl) ?_
    refine lv_iconst (v := nI (4)) hx hb dX3_close_78 (by decide) ?_
    refine lv_idiv hx hb dX3_close_79 (nI_ne0 (n := 4) (by omega) (by omega)) ?_
    refine tp_i (y := nI (j / 4)) (pk_div (a := j) (d := 4) (by omega) (by omega) (by omega)) ?_
    refine g_ild (j := j / 4) hx hb C h 4 rfl (by omega) (by decide) dX3_close_80 ?_
    refine lv_bipush (v := nI (24)) hx hb dX3_close_81 (by decide) ?_
    refine lv_bipush (v := nI (8)) hx hb dX3_close_83 (by decide) ?_
    refine lv_iload_n hx hb dX3_close_85 rfl (lv_at hl 2 rfl) ?_
    refine lv_iconst (v := nI (4)) hx hb dX3_close_86 (by decide) ?_
    refine lv_irem hx hb dX3_close_87 (nI_ne0 (n := 4) (by omega) (by omega)) ?_
    refine tp_i (y := nI (j % 4)) (pk_rem (a := j) (d := 4) (by omega) (by omega) (by omega)) ?_
    refine lv_imul hx hb dX3_close_88 ?_
    refine tp_i (y := nI (8 * (j % 4))) (pk_mul (8) (j % 4)) ?_
    refine lv_isub hx hb dX3_close_89 ?_
    refine tp_i (y := nI (24 - (8 * (j % 4)))) (pk_sub (a := 24) (b := 8 * (j % 4)) (by omega)) ?_
    refine lv_iushr (v := (((v (j / 4))).toUInt32 >>> (Int32.toUInt32 (nI (24 - (8 * (j % 4)))) &&& Int32.toUInt32 31)).toInt32) hx hb dX3_close_90 rfl ?_
    refine lv_i2b (v := (((((v (j / 4))).toUInt32 >>> (Int32.toUInt32 (nI (24 - (8 * (j % 4)))) &&& Int32.toUInt32 31)).toInt32)).toInt8.toInt32) hx hb dX3_close_91 rfl ?_
    refine tp_i (y := obs v j) (rfl) ?_
    refine g_bst (j := j) (v := obs v j) hx hb C h 1 rfl (by omega) (by decide) (pk_vb _) dX3_close_92 (fun H locs h => ?_)
    have h : HS G A s _ _ [oM mo [.ref mou, .ref mtx, .int (nI (z)), .ref mms, .int (nI (n)), .ref mwa, .ref mva, .ref mra], aB G mou 64 (upd (upk of 0 (obs v) j) (j) (obs v j)), aB G mms 16384 (g), aI G mwa 68 (w), aI G mva 8 (v), aI G mra 8 (rr)] := h
    refine lv_iinc (v := nI (j + 1)) (lv' := [(2, .int (nI (j + 1))), (0, .ref mo), (1, .int (nI (64 * ((n + 8) / 64 + 1))))]) hx hb dX3_close_93 hl (k := 2) rfl (ii1 (j)) (by decide) rfl (fun ls hl => ?_)
    refine lv_goto (tgt := 62) hx hb dX3_close_96 (by decide) ?_
    have h := h.eq [oM mo [.ref mou, .ref mtx, .int (nI (z)), .ref mms, .int (nI (n)), .ref mwa, .ref mva, .ref mra], aB G mou 64 (upk of 0 (obs v) (j + 1)), aB G mms 16384 (g), aI G mwa 68 (w), aI G mva 8 (v), aI G mra 8 (rr)] (by rw [upk_s0])
    exact ih (j + 1) H locs ls (by omega) h (lv_sub hl [1, 2, 0] rfl)
set_option maxHeartbeats 4000000 in
/-- close: the digest of what was fed, into the first 32 bytes of out -/
theorem c_X3_close (l : Launch) (G : GG) (mo mou mtx mms mwa mva mra : Nat) (n z sz : Nat) (g of w0 v0 r0 : Nat → Int32) (hn : n ≤ 16384) : CtI l G yX3_close cX3_close 3 .int 4 100 0 0 [.ref mo] [oM mo [.ref mou, .ref mtx, .int (nI (z)), .ref mms, .int (nI (n)), .ref mwa, .ref mva, .ref mra], aB G mou 64 (of), aB G mms 16384 (g), aI G mwa 68 (w0), aI G mva 8 (v0), aI G mra 8 (r0)] sz (fun r (u : (Nat → Int32) × (Nat → Int32) × (Nat → Int32)) => r = nI 32 ∧ v8 u.2.1 = chn (sqw g n (64 * ((n + 8) / 64 + 1))) ((n + 8) / 64 + 1)) (fun u => [oM mo [.ref mou, .ref mtx, .int (nI (z)), .ref mms, .int (nI (0)), .ref mwa, .ref mva, .ref mra], aB G mou 64 (upk of 0 (obs u.2.1) 32), aB G mms 16384 (g), aI G mwa 68 (u.1), aI G mva 8 (u.2.1), aI G mra 8 (u.2.2)]) := by
  refine entI "SmDigestDeskModel" rfl (by decide +kernel) (Nat.le_of_ble_eq_true rfl) ?_
  intro p e s m below meth c A ls hx hb hr hk hml hsz C h hl
  have hl : lv_has ls 3 [(0, .ref mo)] := hl
  refine lv_aload_n hx hb dX3_close_0 rfl (lv_at hl 0 rfl) ?_
  refine g_get hx hb C h (ci := 2) in_X3 rfl 0 rfl 4 (by decide) q258 rfl rfl dX3_close_1 ?_
  refine lv_bipush (v := nI (9)) hx hb dX3_close_4 (by decide) ?_
  refine lv_iadd hx hb dX3_close_6 ?_
  refine tp_i (y := nI (n + 9)) (nI_add (n) (9)) ?_
  refine lv_bipush (v := nI (63)) hx hb dX3_close_7 (by decide) ?_
  refine lv_iadd hx hb dX3_close_9 ?_
  refine tp_i (y := nI (n + 9 + 63)) (nI_add (n + 9) (63)) ?_
  refine lv_bipush (v := nI (64)) hx hb dX3_close_10 (by decide) ?_
  refine lv_idiv hx hb dX3_close_12 (nI_ne0 (n := 64) (by omega) (by omega)) ?_
  refine tp_i (y := nI ((n + 9 + 63) / 64)) (pk_div (a := n + 9 + 63) (d := 64) (by omega) (by omega) (by omega)) ?_
  refine lv_bipush (v := nI (64)) hx hb dX3_close_13 (by decide) ?_
  refine lv_imul hx hb dX3_close_15 ?_
  refine tp_i (y := nI (((n + 9 + 63) / 64) * 64)) (pk_mul ((n + 9 + 63) / 64) (64)) ?_
  refine tp_i (y := nI (64 * ((n + 8) / 64 + 1))) (congrArg nI (by omega)) ?_
  refine lv_istore_n (lv' := [(1, .int (nI (64 * ((n + 8) / 64 + 1)))), (0, .ref mo)]) hx hb dX3_close_16 rfl hl (by decide) rfl (fun ls hl => ?_)
  refine lv_iconst (v := nI (0)) hx hb dX3_close_17 (by decide) ?_
  refine lv_istore_n (lv' := [(2, .int (nI (0))), (1, .int (nI (64 * ((n + 8) / 64 + 1)))), (0, .ref mo)]) hx hb dX3_close_18 rfl hl (by decide) rfl (fun ls hl => ?_)
  refine lp1_X3_close mo mou mtx mms mwa mva mra n z g of hn hx hb hml C w0 r0 (fun v H locs ls hv h hl => ?_) 8 0 v0 _ _ ls rfl lt_0 h (lv_sub hl [2, 1, 0] rfl)
  refine lv_iconst (v := nI (0)) hx hb dX3_close_41 (by decide) ?_
  refine lv_istore_n (lv' := [(2, .int (nI (0))), (0, .ref mo), (1, .int (nI (64 * ((n + 8) / 64 + 1))))]) hx hb dX3_close_42 rfl hl (by decide) rfl (fun ls hl => ?_)
  refine lp2_X3_close mo mou mtx mms mwa mva mra n z g of hn hx hb hml C (fun w v rr H locs ls hv h hl => ?_) ((n + 8) / 64 + 1) 0 w0 v r0 _ _ ls (by omega) (v8_congr hv) h (lv_sub hl [1, 2, 0] rfl)
  refine lv_iconst (v := nI (0)) hx hb dX3_close_60 (by decide) ?_
  refine lv_istore_n (lv' := [(2, .int (nI (0))), (0, .ref mo), (1, .int (nI (64 * ((n + 8) / 64 + 1))))]) hx hb dX3_close_61 rfl hl (by decide) rfl (fun ls hl => ?_)
  refine lp3_X3_close mo mou mtx mms mwa mva mra n z g of hn hx hb hml C w v rr (fun H locs ls h hl => ?_) 32 0 _ _ ls rfl h (lv_sub hl [1, 2, 0] rfl)
  refine lv_aload_n hx hb dX3_close_99 rfl (lv_at hl 0 rfl) ?_
  refine lv_iconst (v := 0) hx hb dX3_close_100 (by decide) ?_
  refine g_put hx hb C h (ci := 2) in_X3 tyX3 tyX3_ok nmX3 rfl 0 rfl 4 (by decide) q258 rfl rfl rfl rfl (Nat.le_of_ble_eq_true rfl) dX3_close_101 (fun H locs h => ?_)
  have h : HS G A s _ _ [oM mo [.ref mou, .ref mtx, .int (nI (z)), .ref mms, .int (0), .ref mwa, .ref mva, .ref mra], aB G mou 64 (upk of 0 (obs v) 32), aB G mms 16384 (g), aI G mwa 68 (w), aI G mva 8 (v), aI G mra 8 (rr)] := h
  refine lv_bipush (v := nI (32)) hx hb dX3_close_104 (by decide) ?_
  exact retI hx hb hr hk (rfl) (w, v, rr) h (⟨rfl, hv⟩) dX3_close_106
end
section
/-! THE CLAIM OUT OF ONE WALK OF THE LAW'S BODY. Your part is whole_start (and what it stands on); all else here is the same for every law, but numbers. -/
def R_law : String := "SmDigestDeskLaw"
def lw_P (b : Addr) (xs : List Int32) (args : Array Value) (s : State) : Prop := args = #[.ref b] ∧ s.IntsAt b xs ∧ xs.length ≤ 384 ∧ (Jvm.Cond.and given_1 narrow_1).before args s = true
def lw_Q (_ : Array Value) (s : State) (o : Outcome) (t : State) : Prop := o = .returned (some (.int 1)) ∧ Framed s o t [] 600000 7302250
def lw_Z (below : List Frame) (a : Array Value) (s : State) : State → Prop := fun t => ∃ o, t.status = .running ∧ Ended t below o ∧ lw_Q a s o t
/-- the law's own end, with 1 on the stack, nothing written that was there before, its room as the claim has it -/
theorem lw_ret {p : Program} {l : Launch} {e : Env} {s : State} {m : MethodId} {below : List Frame} {meth : Method} {c : Code} {b : Nat} (hx : p.tables.exec = Jvm.exec) (hb : c.code = code) (hr : meth.sig.returnType = ret) (hlocks : meth.locks = false) {pc : Nat} {H : Heap} {ls : Array Slot} (hdg : decode code pc = .ok (.ireturn, 1)) : W p l e room_1 s m #[Value.ref b] below meth c H [] 600000 7302250 (lw_Z below #[Value.ref b] s) (F0 m pc ls [.int 1]) := by
  intro T hT X
  obtain ⟨fs, hret, hrun, hended, hW, hframe⟩ := X.leave (v := some (.int 1)) (hlocks := hlocks) (fun h => by rw [hr] at h; cases h)
  have hmeth' : T.vm.method? m = some meth := X.method'
  refine ⟨T.setFrames fs, ?_, .returned (some (.int 1)), hrun, hended, rfl, ⟨_, rfl⟩, hW, hframe⟩
  jvm_step X.here [X.here.top, hx, hb, hdg, hmeth', hr, ret, narrow_b1]
  (try refine ⟨rfl, ?_⟩); (try refine ⟨rfl, ?_⟩)
  first | (intro acts; rw [hret _ acts rfl rfl rfl]) | rw [hret _ _ rfl rfl rfl]
  exact Steps.refl _
/-- what holds at the law's entry: the machine, the code, the tables' words (any of lw_tbl by 'hts w (by decide +kernel)'), the script of L ints xs at the cell b, what the Statement gives of the start (any of its parts by flat_of_before) -/
def lw_At (p : Program) (s : State) (m : MethodId) (meth : Method) (c : Code) (b L : Nat) (xs : Nat → Int32) : Prop :=
  p.tables.exec = Jvm.exec ∧ c.code = code ∧ meth.sig.returnType = ret ∧ c.maxLocals = 4 ∧ s.vm.findClass R_law = some m.cls ∧ (∀ w ∈ lw_tbl, w.before #[Value.ref b] s = true) ∧ va_X b L xs s s.heap ∧ b < s.heap.size ∧ meth.locks = false ∧ (Jvm.Cond.and given_1 narrow_1).before #[Value.ref b] s = true
end
section
/-! THE LAW: what holds at its loop's head, and its eight cases -/
set_option maxRecDepth 100000
/-- the script, which nothing writes -/
def LX (A : Nat → Prop) (s : State) (b Ln : Nat) (xs : Nat → Int32) : Prop := va_X b Ln xs s s.heap ∧ b < s.heap.size ∧ ¬ A b ∧ Ln ≤ 384
/-- the desk and the model say the same: one text, one message, one output; the digest has taken the model's message -/
def LI (G : GG) (A : Nat → Prop) (s : State) (x mo : Nat) (H : Heap) (locs : List Loc) : Prop := ∃ (d ou tx pu xb va ia wa mou mtx mms mwa mva mra n z : Nat) (xbo xo : Int32) (v iw wk xf of t g w0 v0 r0 : Nat → Int32), (n ≤ 16384 ∧ z ≤ 1024 ∧ Bt t ∧ Bt g ∧ DB g n v iw xf xo xbo) ∧ HS G A s H locs [oX x [.ref d, .ref ou, .int (nI (n)), .ref tx, .int (nI (z))], oD d [.ref pu, .ref xb, .int (xbo), .long (lN (n)), .ref va, .ref ia, .int (xo), .ref wa], aI G va 8 (v), aI G ia 16 (iw), aI G wa 68 (wk), aB G xb 4 (xf), aB G ou 64 (of), aB G tx 1024 (t), oM mo [.ref mou, .ref mtx, .int (nI (z)), .ref mms, .int (nI (n)), .ref mwa, .ref mva, .ref mra], aB G mou 64 (of), aB G mtx 1024 (t), aB G mms 16384 (g), aI G mwa 68 (w0), aI G mva 8 (v0), aI G mra 8 (r0)]
theorem feedT_in {g t : Nat → Int32} {n k1 k2 : Nat} : ∀ i, i < k2 → n + k2 ≤ 16384 → t (k1 + i) = feedT g n k1 k2 t (n + i) := by
  intro i hi h
  unfold feedT
  rw [if_pos h, upk_in k2 i hi]
theorem feedT_lo {g t : Nat → Int32} {n k1 k2 : Nat} : ∀ i, i < n → g i = feedT g n k1 k2 t i := by
  intro i hi
  unfold feedT
  split
  · rw [upk_out k2 i hi]
  · rfl
theorem feedT_Bt {g t : Nat → Int32} (hg : Bt g) (ht : Bt t) (n k1 k2 : Nat) : Bt (feedT g n k1 k2 t) := by
  unfold feedT
  split
  · exact hg.upk n k2 (fun i _ => ht _)
  · exact hg
theorem oneT_in {g : Nat → Int32} {n : Nat} {x : Int32} : n + 1 ≤ 16384 → x = oneT g n x n := by
  intro h
  unfold oneT
  rw [if_pos h, pk_us]
theorem oneT_lo {g : Nat → Int32} {n : Nat} {x : Int32} : ∀ i, i < n → g i = oneT g n x i := by
  intro i hi
  unfold oneT
  split
  · rw [pk_un (by omega)]
  · rfl
theorem oneT_Bt {g : Nat → Int32} (hg : Bt g) (n : Nat) (a : Int32) : Bt (oneT g n (a.toInt8.toInt32)) := by
  unfold oneT
  split
  · exact hg.upd n (pk_vb _)
  · exact hg
theorem obs_congr {v v' : Nat → Int32} (h : ∀ i, i < 8 → v i = v' i) : ∀ i, i < 32 → obs v i = obs v' i := by
  intro i hi
  unfold obs
  rw [h (i / 4) (by omega)]
theorem lim6 {c i : Nat} (hc : c < 2 ^ 30) (hi : i < 2 ^ 30) : nI c - nI 6 < nI i ↔ c < i + 6 := by
  rw [Int32.lt_iff_toInt_lt, pk_sub_toInt hc (by decide), nI_toInt (Nat.lt_trans hi (by decide))]
  omega
section SCRIPT
variable {p : Program} {l : Launch} {e : Env} {R : Room} {s : State} {m : MethodId} {args : Array Value} {below : List Frame} {meth : Method} {c : Code} {H : Heap} {locs : List Loc} {cells slots : Nat} {Q : State → Prop}
variable {cc : ByteArray} {pc : Nat} {ls : Array Slot} {rest : List Value} {G : GG} {A : Nat → Prop} {ws : va_W} {b Ln : Nat} {xs : Nat → Int32}
theorem g_sld (hx : p.tables.exec = Jvm.exec) (hb : c.code = cc) (hX : LX A s b Ln xs) (h : HS G A s H locs ws) {j : Nat} (hj : j < Ln) (hdg : decode cc pc = .ok (.iaload, 1))
    (kk : W p l e R s m args below meth c H locs cells slots Q (F0 m (pc + 1) ls (.int (xs j) :: rest))) : W p l e R s m args below meth c H locs cells slots Q (F0 m pc ls (.int (nI j) :: .ref b :: rest)) := by
  have h3 := hX.2.2.2
  exact va_sld hx hb hX.1 hX.2.1 hX.2.2.1 h.2.2 (vp_in_nI hj (by omega)) hdg (by rw [nI_clamp (by omega)]; exact kk)
theorem g_slen (hx : p.tables.exec = Jvm.exec) (hb : c.code = cc) (hX : LX A s b Ln xs) (h : HS G A s H locs ws) (hdg : decode cc pc = .ok (.arraylength, 1))
    (kk : W p l e R s m args below meth c H locs cells slots Q (F0 m (pc + 1) ls (.int (nI Ln) :: rest))) : W p l e R s m args below meth c H locs cells slots Q (F0 m pc ls (.ref b :: rest)) :=
  va_slen hx hb hX.1 hX.2.1 hX.2.2.1 h.2.2 hdg kk
end SCRIPT
set_option maxHeartbeats 4000000 in
theorem lc_put {p : Program} {l : Launch} {e : Env} {s : State} {m : MethodId} {args : Array Value} {below : List Frame} {meth : Method} {c : Code} {Q : State → Prop} {G : GG} {A : Nat → Prop} {b Ln : Nat} {xs : Nat → Int32} {x mo : Nat} {j : Nat} {H : Heap} {locs : List Loc} {ls : Array Slot} (hx : p.tables.exec = Jvm.exec) (hb : c.code = cL_law) (hml : c.maxLocals = 4) (C : CX G A s args m "SmDigestDeskLaw") (hX : LX A s b Ln xs) (hj : 6 * j + 6 ≤ Ln) (hI : LI G A s x mo H locs) (hl : lv_has ls 4 [(0, .ref b), (1, .ref x), (2, .ref mo), (3, .int (nI (6 * j)))])
    (kx : ∀ (H : Heap) (locs : List Loc), LI G A s x mo H locs → W p l e room_1 s m args below meth c H locs (15 + 5 * (j + 1)) (18761 + 104 * (j + 1)) Q (F0 m 278 ls [])) :
    W p l e room_1 s m args below meth c H locs (15 + 5 * j) (18761 + 104 * j) Q (F0 m 80 ls []) := by
  obtain ⟨d, ou, tx, pu, xb, va, ia, wa, mou, mtx, mms, mwa, mva, mra, n, z, xbo, xo, v, iw, wk, xf, of, t, g, w0, v0, r0, ⟨hn, hz, ht, hg, hD⟩, h⟩ := hI
  have hL := hX.2.2.2
  refine lv_aload_n hx hb dL_law_80 rfl (lv_at hl 1 rfl) ?_
  refine lv_aload_n hx hb dL_law_81 rfl (lv_at hl 0 rfl) ?_
  refine lv_iload_n hx hb dL_law_82 rfl (lv_at hl 3 rfl) ?_
  refine lv_iconst (v := nI (1)) hx hb dL_law_83 (by decide) ?_
  refine lv_iadd hx hb dL_law_84 ?_
  refine tp_i (y := nI (6 * j + 1)) (nI_add (6 * j) (1)) ?_
  refine g_sld (j := 6 * j + 1) hx hb hX h (by omega) dL_law_85 ?_
  refine lv_aload_n hx hb dL_law_86 rfl (lv_at hl 0 rfl) ?_
  refine lv_iload_n hx hb dL_law_87 rfl (lv_at hl 3 rfl) ?_
  refine lv_iconst (v := nI (2)) hx hb dL_law_88 (by decide) ?_
  refine lv_iadd hx hb dL_law_89 ?_
  refine tp_i (y := nI (6 * j + 2)) (nI_add (6 * j) (2)) ?_
  refine g_sld (j := 6 * j + 2) hx hb hX h (by omega) dL_law_90 ?_
  refine lv_aload_n hx hb dL_law_91 rfl (lv_at hl 0 rfl) ?_
  refine lv_iload_n hx hb dL_law_92 rfl (lv_at hl 3 rfl) ?_
  refine lv_iconst (v := nI (3)) hx hb dL_law_93 (by decide) ?_
  refine lv_iadd hx hb dL_law_94 ?_
  refine tp_i (y := nI (6 * j + 3)) (nI_add (6 * j) (3)) ?_
  refine g_sld (j := 6 * j + 3) hx hb hX h (by omega) dL_law_95 ?_
  refine lv_aload_n hx hb dL_law_96 rfl (lv_at hl 0 rfl) ?_
  refine lv_iload_n hx hb dL_law_97 rfl (lv_at hl 3 rfl) ?_
  refine lv_iconst (v := nI (4)) hx hb dL_law_98 (by decide) ?_
  refine lv_iadd hx hb dL_law_99 ?_
  refine tp_i (y := nI (6 * j + 4)) (nI_add (6 * j) (4)) ?_
  refine g_sld (j := 6 * j + 4) hx hb hX h (by omega) dL_law_100 ?_
  refine kVi (Cn := "SmDigestDesk") (wr := [oD d [.ref pu, .ref xb, .int (xbo), .long (lN (n)), .ref va, .ref ia, .int (xo), .ref wa], aI G va 8 (v), aI G ia 16 (iw), aI G wa 68 (wk), aB G xb 4 (xf), aB G ou 64 (of), oM mo [.ref mou, .ref mtx, .int (nI (z)), .ref mms, .int (nI (n)), .ref mwa, .ref mva, .ref mra], aB G mou 64 (of), aB G mtx 1024 (t), aB G mms 16384 (g), aI G mwa 68 (w0), aI G mva 8 (v0), aI G mra 8 (r0)]) (rest := []) (na := 4) hx hb hml C h (c_X0_put l G x d ou tx n z _ (xs (6 * j + 1)) (xs (6 * j + 2)) (xs (6 * j + 3)) (xs (6 * j + 4)) t hz) (lw_V q103 q104 q105 q15 q106) (by decide +kernel) rfl ⟨Nat.le_of_ble_eq_true rfl, Nat.le_of_ble_eq_true rfl⟩ 0 rfl rfl rfl [0, 7] (by decide) rfl [1, 2, 3, 4, 5, 6, 8, 9, 10, 11, 12, 13, 14] (by decide) rfl (by decide) hl.1 rfl (Nat.le_of_ble_eq_true rfl) ⟨by show _ ≤ 600000; omega, by show _ ≤ 7302250; omega⟩ dL_law_101 (fun rv1 u1 H locs hp1 h => ?_)
  have h : HS G A s _ _ [oD d [.ref pu, .ref xb, .int (xbo), .long (lN (n)), .ref va, .ref ia, .int (xo), .ref wa], aI G va 8 (v), aI G ia 16 (iw), aI G wa 68 (wk), aB G xb 4 (xf), aB G ou 64 (of), oM mo [.ref mou, .ref mtx, .int (nI (z)), .ref mms, .int (nI (n)), .ref mwa, .ref mva, .ref mra], aB G mou 64 (of), aB G mtx 1024 (t), aB G mms 16384 (g), aI G mwa 68 (w0), aI G mva 8 (v0), aI G mra 8 (r0), oX x [.ref d, .ref ou, .int (nI (n)), .ref tx, .int (nI (putZ z))], aB G tx 1024 (putT t z (xs (6 * j + 1)) (xs (6 * j + 2)) (xs (6 * j + 3)) (xs (6 * j + 4)))] := h
  obtain rfl : rv1 = putR z := hp1
  refine lv_aload_n hx hb dL_law_104 rfl (lv_at hl 2 rfl) ?_
  refine lv_aload_n hx hb dL_law_105 rfl (lv_at hl 0 rfl) ?_
  refine lv_iload_n hx hb dL_law_106 rfl (lv_at hl 3 rfl) ?_
  refine lv_iconst (v := nI (1)) hx hb dL_law_107 (by decide) ?_
  refine lv_iadd hx hb dL_law_108 ?_
  refine tp_i (y := nI (6 * j + 1)) (nI_add (6 * j) (1)) ?_
  refine g_sld (j := 6 * j + 1) hx hb hX h (by omega) dL_law_109 ?_
  refine lv_aload_n hx hb dL_law_110 rfl (lv_at hl 0 rfl) ?_
  refine lv_iload_n hx hb dL_law_111 rfl (lv_at hl 3 rfl) ?_
  refine lv_iconst (v := nI (2)) hx hb dL_law_112 (by decide) ?_
  refine lv_iadd hx hb dL_law_113 ?_
  refine tp_i (y := nI (6 * j + 2)) (nI_add (6 * j) (2)) ?_
  refine g_sld (j := 6 * j + 2) hx hb hX h (by omega) dL_law_114 ?_
  refine lv_aload_n hx hb dL_law_115 rfl (lv_at hl 0 rfl) ?_
  refine lv_iload_n hx hb dL_law_116 rfl (lv_at hl 3 rfl) ?_
  refine lv_iconst (v := nI (3)) hx hb dL_law_117 (by decide) ?_
  refine lv_iadd hx hb dL_law_118 ?_
  refine tp_i (y := nI (6 * j + 3)) (nI_add (6 * j) (3)) ?_
  refine g_sld (j := 6 * j + 3) hx hb hX h (by omega) dL_law_119 ?_
  refine lv_aload_n hx hb dL_law_120 rfl (lv_at hl 0 rfl) ?_
  refine lv_iload_n hx hb dL_law_121 rfl (lv_at hl 3 rfl) ?_
  refine lv_iconst (v := nI (4)) hx hb dL_law_122 (by decide) ?_
  refine lv_iadd hx hb dL_law_123 ?_
  refine tp_i (y := nI (6 * j + 4)) (nI_add (6 * j) (4)) ?_
  refine g_sld (j := 6 * j + 4) hx hb hX h (by omega) dL_law_124 ?_
  refine kVi (Cn := "SmDigestDeskModel") (wr := [oD d [.ref pu, .ref xb, .int (xbo), .long (lN (n)), .ref va, .ref ia, .int (xo), .ref wa], aI G va 8 (v), aI G ia 16 (iw), aI G wa 68 (wk), aB G xb 4 (xf), aB G ou 64 (of), aB G mou 64 (of), aB G mms 16384 (g), aI G mwa 68 (w0), aI G mva 8 (v0), aI G mra 8 (r0), oX x [.ref d, .ref ou, .int (nI (n)), .ref tx, .int (nI (putZ z))], aB G tx 1024 (putT t z (xs (6 * j + 1)) (xs (6 * j + 2)) (xs (6 * j + 3)) (xs (6 * j + 4)))]) (rest := [.int (putR z)]) (na := 4) hx hb hml C h (c_X3_put l G mo mou mtx mms mwa mva mra n z _ (xs (6 * j + 1)) (xs (6 * j + 2)) (xs (6 * j + 3)) (xs (6 * j + 4)) t hz) (lw_V q279 q280 q281 q20 q282) (by decide +kernel) rfl ⟨Nat.le_of_ble_eq_true rfl, Nat.le_of_ble_eq_true rfl⟩ 6 rfl rfl rfl [6, 8] (by decide) rfl [0, 1, 2, 3, 4, 5, 7, 9, 10, 11, 12, 13, 14] (by decide) rfl (by decide) hl.1 rfl (Nat.le_of_ble_eq_true rfl) ⟨by show _ ≤ 600000; omega, by show _ ≤ 7302250; omega⟩ dL_law_125 (fun rv2 u2 H locs hp2 h => ?_)
  have h : HS G A s _ _ [oD d [.ref pu, .ref xb, .int (xbo), .long (lN (n)), .ref va, .ref ia, .int (xo), .ref wa], aI G va 8 (v), aI G ia 16 (iw), aI G wa 68 (wk), aB G xb 4 (xf), aB G ou 64 (of), aB G mou 64 (of), aB G mms 16384 (g), aI G mwa 68 (w0), aI G mva 8 (v0), aI G mra 8 (r0), oX x [.ref d, .ref ou, .int (nI (n)), .ref tx, .int (nI (putZ z))], aB G tx 1024 (putT t z (xs (6 * j + 1)) (xs (6 * j + 2)) (xs (6 * j + 3)) (xs (6 * j + 4))), oM mo [.ref mou, .ref mtx, .int (nI (putZ z)), .ref mms, .int (nI (n)), .ref mwa, .ref mva, .ref mra], aB G mtx 1024 (putT t z (xs (6 * j + 1)) (xs (6 * j + 2)) (xs (6 * j + 3)) (xs (6 * j + 4)))] := h
  obtain rfl : rv2 = putR z := hp2
  refine lv_icmp_eq (tgt := 278) hx hb dL_law_128 (by decide) (fun _ => ?_) (fun c_ => absurd (rfl) c_)
  have h := h.sub (ws' := [oX x [.ref d, .ref ou, .int (nI (n)), .ref tx, .int (nI (putZ z))], oD d [.ref pu, .ref xb, .int (xbo), .long (lN (n)), .ref va, .ref ia, .int (xo), .ref wa], aI G va 8 (v), aI G ia 16 (iw), aI G wa 68 (wk), aB G xb 4 (xf), aB G ou 64 (of), aB G tx 1024 (putT t z (xs (6 * j + 1)) (xs (6 * j + 2)) (xs (6 * j + 3)) (xs (6 * j + 4))), oM mo [.ref mou, .ref mtx, .int (nI (putZ z)), .ref mms, .int (nI (n)), .ref mwa, .ref mva, .ref mra], aB G mou 64 (of), aB G mtx 1024 (putT t z (xs (6 * j + 1)) (xs (6 * j + 2)) (xs (6 * j + 3)) (xs (6 * j + 4))), aB G mms 16384 (g), aI G mwa 68 (w0), aI G mva 8 (v0), aI G mra 8 (r0)]) [11, 0, 1, 2, 3, 4, 5, 12, 13, 6, 14, 7, 8, 9, 10] (by decide) rfl
  refine W.widen (k := 15 + 5 * (j + 1)) (n := 18761 + 104 * (j + 1)) (by omega) (by omega) ?_
  exact kx H locs ⟨d, ou, tx, pu, xb, va, ia, wa, mou, mtx, mms, mwa, mva, mra, n, putZ z, xbo, xo, v, iw, wk, xf, of, putT t z (xs (6 * j + 1)) (xs (6 * j + 2)) (xs (6 * j + 3)) (xs (6 * j + 4)), g, w0, v0, r0, ⟨hn, putZ_le hz, putT_Bt ht z (xs (6 * j + 1)) (xs (6 * j + 2)) (xs (6 * j + 3)) (xs (6 * j + 4)), hg, hD⟩, h⟩
set_option maxHeartbeats 4000000 in
theorem lc_trim {p : Program} {l : Launch} {e : Env} {s : State} {m : MethodId} {args : Array Value} {below : List Frame} {meth : Method} {c : Code} {Q : State → Prop} {G : GG} {A : Nat → Prop} {b Ln : Nat} {xs : Nat → Int32} {x mo : Nat} {j : Nat} {H : Heap} {locs : List Loc} {ls : Array Slot} (hx : p.tables.exec = Jvm.exec) (hb : c.code = cL_law) (hml : c.maxLocals = 4) (C : CX G A s args m "SmDigestDeskLaw") (hX : LX A s b Ln xs) (hj : 6 * j + 6 ≤ Ln) (hI : LI G A s x mo H locs) (hl : lv_has ls 4 [(0, .ref b), (1, .ref x), (2, .ref mo), (3, .int (nI (6 * j)))])
    (kx : ∀ (H : Heap) (locs : List Loc), LI G A s x mo H locs → W p l e room_1 s m args below meth c H locs (15 + 5 * (j + 1)) (18761 + 104 * (j + 1)) Q (F0 m 278 ls [])) :
    W p l e room_1 s m args below meth c H locs (15 + 5 * j) (18761 + 104 * j) Q (F0 m 133 ls []) := by
  obtain ⟨d, ou, tx, pu, xb, va, ia, wa, mou, mtx, mms, mwa, mva, mra, n, z, xbo, xo, v, iw, wk, xf, of, t, g, w0, v0, r0, ⟨hn, hz, ht, hg, hD⟩, h⟩ := hI
  have hL := hX.2.2.2
  refine lv_aload_n hx hb dL_law_133 rfl (lv_at hl 1 rfl) ?_
  refine lv_aload_n hx hb dL_law_134 rfl (lv_at hl 0 rfl) ?_
  refine lv_iload_n hx hb dL_law_135 rfl (lv_at hl 3 rfl) ?_
  refine lv_iconst (v := nI (1)) hx hb dL_law_136 (by decide) ?_
  refine lv_iadd hx hb dL_law_137 ?_
  refine tp_i (y := nI (6 * j + 1)) (nI_add (6 * j) (1)) ?_
  refine g_sld (j := 6 * j + 1) hx hb hX h (by omega) dL_law_138 ?_
  refine kVv (Cn := "SmDigestDesk") (wr := [oD d [.ref pu, .ref xb, .int (xbo), .long (lN (n)), .ref va, .ref ia, .int (xo), .ref wa], aI G va 8 (v), aI G ia 16 (iw), aI G wa 68 (wk), aB G xb 4 (xf), aB G ou 64 (of), aB G tx 1024 (t), oM mo [.ref mou, .ref mtx, .int (nI (z)), .ref mms, .int (nI (n)), .ref mwa, .ref mva, .ref mra], aB G mou 64 (of), aB G mtx 1024 (t), aB G mms 16384 (g), aI G mwa 68 (w0), aI G mva 8 (v0), aI G mra 8 (r0)]) (rest := []) (na := 1) hx hb hml C h (c_X0_trim l G x d ou tx n z _ (xs (6 * j + 1)) hz) (lw_V q111 q112 q113 q15 q114) (by decide +kernel) rfl ⟨Nat.le_of_ble_eq_true rfl, Nat.le_of_ble_eq_true rfl⟩ 0 rfl rfl rfl [0] (by decide) rfl [1, 2, 3, 4, 5, 6, 7, 8, 9, 10, 11, 12, 13, 14] (by decide) rfl (by decide) hl.1 rfl (Nat.le_of_ble_eq_true rfl) ⟨by show _ ≤ 600000; omega, by show _ ≤ 7302250; omega⟩ dL_law_139 (fun u1 H locs hp1 h => ?_)
  have h : HS G A s _ _ [oD d [.ref pu, .ref xb, .int (xbo), .long (lN (n)), .ref va, .ref ia, .int (xo), .ref wa], aI G va 8 (v), aI G ia 16 (iw), aI G wa 68 (wk), aB G xb 4 (xf), aB G ou 64 (of), aB G tx 1024 (t), oM mo [.ref mou, .ref mtx, .int (nI (z)), .ref mms, .int (nI (n)), .ref mwa, .ref mva, .ref mra], aB G mou 64 (of), aB G mtx 1024 (t), aB G mms 16384 (g), aI G mwa 68 (w0), aI G mva 8 (v0), aI G mra 8 (r0), oX x [.ref d, .ref ou, .int (nI (n)), .ref tx, .int (nI (fN (xs (6 * j + 1)) % (z + 1)))]] := h
  refine lv_aload_n hx hb dL_law_142 rfl (lv_at hl 2 rfl) ?_
  refine lv_aload_n hx hb dL_law_143 rfl (lv_at hl 0 rfl) ?_
  refine lv_iload_n hx hb dL_law_144 rfl (lv_at hl 3 rfl) ?_
  refine lv_iconst (v := nI (1)) hx hb dL_law_145 (by decide) ?_
  refine lv_iadd hx hb dL_law_146 ?_
  refine tp_i (y := nI (6 * j + 1)) (nI_add (6 * j) (1)) ?_
  refine g_sld (j := 6 * j + 1) hx hb hX h (by omega) dL_law_147 ?_
  refine kVv (Cn := "SmDigestDeskModel") (wr := [oD d [.ref pu, .ref xb, .int (xbo), .long (lN (n)), .ref va, .ref ia, .int (xo), .ref wa], aI G va 8 (v), aI G ia 16 (iw), aI G wa 68 (wk), aB G xb 4 (xf), aB G ou 64 (of), aB G tx 1024 (t), aB G mou 64 (of), aB G mtx 1024 (t), aB G mms 16384 (g), aI G mwa 68 (w0), aI G mva 8 (v0), aI G mra 8 (r0), oX x [.ref d, .ref ou, .int (nI (n)), .ref tx, .int (nI (fN (xs (6 * j + 1)) % (z + 1)))]]) (rest := []) (na := 1) hx hb hml C h (c_X3_trim l G mo mou mtx mms mwa mva mra n z _ (xs (6 * j + 1)) hz) (lw_V q283 q284 q285 q20 q286) (by decide +kernel) rfl ⟨Nat.le_of_ble_eq_true rfl, Nat.le_of_ble_eq_true rfl⟩ 7 rfl rfl rfl [7] (by decide) rfl [0, 1, 2, 3, 4, 5, 6, 8, 9, 10, 11, 12, 13, 14] (by decide) rfl (by decide) hl.1 rfl (Nat.le_of_ble_eq_true rfl) ⟨by show _ ≤ 600000; omega, by show _ ≤ 7302250; omega⟩ dL_law_148 (fun u2 H locs hp2 h => ?_)
  have h : HS G A s _ _ [oD d [.ref pu, .ref xb, .int (xbo), .long (lN (n)), .ref va, .ref ia, .int (xo), .ref wa], aI G va 8 (v), aI G ia 16 (iw), aI G wa 68 (wk), aB G xb 4 (xf), aB G ou 64 (of), aB G tx 1024 (t), aB G mou 64 (of), aB G mtx 1024 (t), aB G mms 16384 (g), aI G mwa 68 (w0), aI G mva 8 (v0), aI G mra 8 (r0), oX x [.ref d, .ref ou, .int (nI (n)), .ref tx, .int (nI (fN (xs (6 * j + 1)) % (z + 1)))], oM mo [.ref mou, .ref mtx, .int (nI (fN (xs (6 * j + 1)) % (z + 1))), .ref mms, .int (nI (n)), .ref mwa, .ref mva, .ref mra]] := h
  refine lv_goto (tgt := 278) hx hb dL_law_151 (by decide) ?_
  have hz2 : fN (xs (6 * j + 1)) % (z + 1) ≤ 1024 := by
    have := Nat.mod_lt (fN (xs (6 * j + 1))) (show 0 < z + 1 by omega)
    omega
  have h := h.sub (ws' := [oX x [.ref d, .ref ou, .int (nI (n)), .ref tx, .int (nI (fN (xs (6 * j + 1)) % (z + 1)))], oD d [.ref pu, .ref xb, .int (xbo), .long (lN (n)), .ref va, .ref ia, .int (xo), .ref wa], aI G va 8 (v), aI G ia 16 (iw), aI G wa 68 (wk), aB G xb 4 (xf), aB G ou 64 (of), aB G tx 1024 (t), oM mo [.ref mou, .ref mtx, .int (nI (fN (xs (6 * j + 1)) % (z + 1))), .ref mms, .int (nI (n)), .ref mwa, .ref mva, .ref mra], aB G mou 64 (of), aB G mtx 1024 (t), aB G mms 16384 (g), aI G mwa 68 (w0), aI G mva 8 (v0), aI G mra 8 (r0)]) [13, 0, 1, 2, 3, 4, 5, 6, 14, 7, 8, 9, 10, 11, 12] (by decide) rfl
  refine W.widen (k := 15 + 5 * (j + 1)) (n := 18761 + 104 * (j + 1)) (by omega) (by omega) ?_
  exact kx H locs ⟨d, ou, tx, pu, xb, va, ia, wa, mou, mtx, mms, mwa, mva, mra, n, fN (xs (6 * j + 1)) % (z + 1), xbo, xo, v, iw, wk, xf, of, t, g, w0, v0, r0, ⟨hn, hz2, ht, hg, hD⟩, h⟩
set_option maxHeartbeats 4000000 in
theorem lc_begin {p : Program} {l : Launch} {e : Env} {s : State} {m : MethodId} {args : Array Value} {below : List Frame} {meth : Method} {c : Code} {Q : State → Prop} {G : GG} {A : Nat → Prop} {b Ln : Nat} {xs : Nat → Int32} {x mo : Nat} {j : Nat} {H : Heap} {locs : List Loc} {ls : Array Slot} (hx : p.tables.exec = Jvm.exec) (hb : c.code = cL_law) (hml : c.maxLocals = 4) (C : CX G A s args m "SmDigestDeskLaw") (hX : LX A s b Ln xs) (hj : 6 * j + 6 ≤ Ln) (hI : LI G A s x mo H locs) (hl : lv_has ls 4 [(0, .ref b), (1, .ref x), (2, .ref mo), (3, .int (nI (6 * j)))])
    (kx : ∀ (H : Heap) (locs : List Loc), LI G A s x mo H locs → W p l e room_1 s m args below meth c H locs (15 + 5 * (j + 1)) (18761 + 104 * (j + 1)) Q (F0 m 278 ls [])) :
    W p l e room_1 s m args below meth c H locs (15 + 5 * j) (18761 + 104 * j) Q (F0 m 154 ls []) := by
  obtain ⟨d, ou, tx, pu, xb, va, ia, wa, mou, mtx, mms, mwa, mva, mra, n, z, xbo, xo, v, iw, wk, xf, of, t, g, w0, v0, r0, ⟨hn, hz, ht, hg, hD⟩, h⟩ := hI
  have hL := hX.2.2.2
  refine lv_aload_n hx hb dL_law_154 rfl (lv_at hl 1 rfl) ?_
  refine lv_aload_n hx hb dL_law_155 rfl (lv_at hl 0 rfl) ?_
  refine lv_iload_n hx hb dL_law_156 rfl (lv_at hl 3 rfl) ?_
  refine lv_iconst (v := nI (1)) hx hb dL_law_157 (by decide) ?_
  refine lv_iadd hx hb dL_law_158 ?_
  refine tp_i (y := nI (6 * j + 1)) (nI_add (6 * j) (1)) ?_
  refine g_sld (j := 6 * j + 1) hx hb hX h (by omega) dL_law_159 ?_
  refine kVv (Cn := "SmDigestDesk") (wr := [oD d [.ref pu, .ref xb, .int (xbo), .long (lN (n)), .ref va, .ref ia, .int (xo), .ref wa], aI G va 8 (v), aI G ia 16 (iw), aI G wa 68 (wk), aB G xb 4 (xf), aB G ou 64 (of), aB G tx 1024 (t), oM mo [.ref mou, .ref mtx, .int (nI (z)), .ref mms, .int (nI (n)), .ref mwa, .ref mva, .ref mra], aB G mou 64 (of), aB G mtx 1024 (t), aB G mms 16384 (g), aI G mwa 68 (w0), aI G mva 8 (v0), aI G mra 8 (r0)]) (rest := []) (na := 1) hx hb hml C h (c_X0_begin l G x d ou tx n z _ (xs (6 * j + 1)) g) (lw_V q120 q121 q122 q15 q123) (by decide +kernel) rfl ⟨Nat.le_of_ble_eq_true rfl, Nat.le_of_ble_eq_true rfl⟩ 0 rfl rfl rfl [0] (by decide) rfl [1, 2, 3, 4, 5, 6, 7, 8, 9, 10, 11, 12, 13, 14] (by decide) rfl (by decide) hl.1 rfl (Nat.le_of_ble_eq_true rfl) ⟨by show _ ≤ 600000; omega, by show _ ≤ 7302250; omega⟩ dL_law_160 (fun u H locs hp1 h => ?_)
  obtain ⟨⟨v2, iw2, wk2, xf2, xo2, xbo2⟩, d2, xb2, va2, ia2, wa2⟩ := u
  have h : HS G A s _ _ [oD d [.ref pu, .ref xb, .int (xbo), .long (lN (n)), .ref va, .ref ia, .int (xo), .ref wa], aI G va 8 (v), aI G ia 16 (iw), aI G wa 68 (wk), aB G xb 4 (xf), aB G ou 64 (of), aB G tx 1024 (t), oM mo [.ref mou, .ref mtx, .int (nI (z)), .ref mms, .int (nI (n)), .ref mwa, .ref mva, .ref mra], aB G mou 64 (of), aB G mtx 1024 (t), aB G mms 16384 (g), aI G mwa 68 (w0), aI G mva 8 (v0), aI G mra 8 (r0), oX x [.ref d2, .ref ou, .int (nI (0)), .ref tx, .int (nI (z))], oD d2 [.ref (G.2.2.2), .ref xb2, .int (xbo2), .long (0), .ref va2, .ref ia2, .int (xo2), .ref wa2], aI G va2 8 (v2), aI G ia2 16 (iw2), aI G wa2 68 (wk2), aB G xb2 4 (xf2)] := h
  refine lv_aload_n hx hb dL_law_163 rfl (lv_at hl 2 rfl) ?_
  refine lv_aload_n hx hb dL_law_164 rfl (lv_at hl 0 rfl) ?_
  refine lv_iload_n hx hb dL_law_165 rfl (lv_at hl 3 rfl) ?_
  refine lv_iconst (v := nI (1)) hx hb dL_law_166 (by decide) ?_
  refine lv_iadd hx hb dL_law_167 ?_
  refine tp_i (y := nI (6 * j + 1)) (nI_add (6 * j) (1)) ?_
  refine g_sld (j := 6 * j + 1) hx hb hX h (by omega) dL_law_168 ?_
  refine kVv (Cn := "SmDigestDeskModel") (wr := [oD d [.ref pu, .ref xb, .int (xbo), .long (lN (n)), .ref va, .ref ia, .int (xo), .ref wa], aI G va 8 (v), aI G ia 16 (iw), aI G wa 68 (wk), aB G xb 4 (xf), aB G ou 64 (of), aB G tx 1024 (t), aB G mou 64 (of), aB G mtx 1024 (t), aB G mms 16384 (g), aI G mwa 68 (w0), aI G mva 8 (v0), aI G mra 8 (r0), oX x [.ref d2, .ref ou, .int (nI (0)), .ref tx, .int (nI (z))], oD d2 [.ref (G.2.2.2), .ref xb2, .int (xbo2), .long (0), .ref va2, .ref ia2, .int (xo2), .ref wa2], aI G va2 8 (v2), aI G ia2 16 (iw2), aI G wa2 68 (wk2), aB G xb2 4 (xf2)]) (rest := []) (na := 1) hx hb hml C h (c_X3_begin l G mo mou mtx mms mwa mva mra n z _ (xs (6 * j + 1))) (lw_V q292 q293 q294 q20 q295) (by decide +kernel) rfl ⟨Nat.le_of_ble_eq_true rfl, Nat.le_of_ble_eq_true rfl⟩ 7 rfl rfl rfl [7] (by decide) rfl [0, 1, 2, 3, 4, 5, 6, 8, 9, 10, 11, 12, 13, 14, 15, 16, 17, 18, 19] (by decide) rfl (by decide) hl.1 rfl (Nat.le_of_ble_eq_true rfl) ⟨by show _ ≤ 600000; omega, by show _ ≤ 7302250; omega⟩ dL_law_169 (fun u2 H locs hp2 h => ?_)
  have h : HS G A s _ _ [oD d [.ref pu, .ref xb, .int (xbo), .long (lN (n)), .ref va, .ref ia, .int (xo), .ref wa], aI G va 8 (v), aI G ia 16 (iw), aI G wa 68 (wk), aB G xb 4 (xf), aB G ou 64 (of), aB G tx 1024 (t), aB G mou 64 (of), aB G mtx 1024 (t), aB G mms 16384 (g), aI G mwa 68 (w0), aI G mva 8 (v0), aI G mra 8 (r0), oX x [.ref d2, .ref ou, .int (nI (0)), .ref tx, .int (nI (z))], oD d2 [.ref (G.2.2.2), .ref xb2, .int (xbo2), .long (0), .ref va2, .ref ia2, .int (xo2), .ref wa2], aI G va2 8 (v2), aI G ia2 16 (iw2), aI G wa2 68 (wk2), aB G xb2 4 (xf2), oM mo [.ref mou, .ref mtx, .int (nI (z)), .ref mms, .int (nI (0)), .ref mwa, .ref mva, .ref mra]] := h
  refine lv_goto (tgt := 278) hx hb dL_law_172 (by decide) ?_
  have h := h.sub (ws' := [oX x [.ref d2, .ref ou, .int (nI (0)), .ref tx, .int (nI (z))], oD d2 [.ref (G.2.2.2), .ref xb2, .int (xbo2), .long (0), .ref va2, .ref ia2, .int (xo2), .ref wa2], aI G va2 8 (v2), aI G ia2 16 (iw2), aI G wa2 68 (wk2), aB G xb2 4 (xf2), aB G ou 64 (of), aB G tx 1024 (t), oM mo [.ref mou, .ref mtx, .int (nI (z)), .ref mms, .int (nI (0)), .ref mwa, .ref mva, .ref mra], aB G mou 64 (of), aB G mtx 1024 (t), aB G mms 16384 (g), aI G mwa 68 (w0), aI G mva 8 (v0), aI G mra 8 (r0)]) [13, 14, 15, 16, 17, 18, 5, 6, 19, 7, 8, 9, 10, 11, 12] (by decide) rfl
  refine W.widen (k := 15 + 5 * (j + 1)) (n := 18761 + 104 * (j + 1)) (by omega) (by omega) ?_
  exact kx H locs ⟨d2, ou, tx, G.2.2.2, xb2, va2, ia2, wa2, mou, mtx, mms, mwa, mva, mra, 0, z, xbo2, xo2, v2, iw2, wk2, xf2, of, t, g, w0, v0, r0, ⟨Nat.zero_le _, hz, ht, hg, hp1⟩, h⟩
set_option maxHeartbeats 4000000 in
theorem lc_feed {p : Program} {l : Launch} {e : Env} {s : State} {m : MethodId} {args : Array Value} {below : List Frame} {meth : Method} {c : Code} {Q : State → Prop} {G : GG} {A : Nat → Prop} {b Ln : Nat} {xs : Nat → Int32} {x mo : Nat} {j : Nat} {H : Heap} {locs : List Loc} {ls : Array Slot} (hx : p.tables.exec = Jvm.exec) (hb : c.code = cL_law) (hml : c.maxLocals = 4) (C : CX G A s args m "SmDigestDeskLaw") (hX : LX A s b Ln xs) (hj : 6 * j + 6 ≤ Ln) (hI : LI G A s x mo H locs) (hl : lv_has ls 4 [(0, .ref b), (1, .ref x), (2, .ref mo), (3, .int (nI (6 * j)))])
    (kx : ∀ (H : Heap) (locs : List Loc), LI G A s x mo H locs → W p l e room_1 s m args below meth c H locs (15 + 5 * (j + 1)) (18761 + 104 * (j + 1)) Q (F0 m 278 ls [])) :
    W p l e room_1 s m args below meth c H locs (15 + 5 * j) (18761 + 104 * j) Q (F0 m 175 ls []) := by
  obtain ⟨d, ou, tx, pu, xb, va, ia, wa, mou, mtx, mms, mwa, mva, mra, n, z, xbo, xo, v, iw, wk, xf, of, t, g, w0, v0, r0, ⟨hn, hz, ht, hg, hD⟩, h⟩ := hI
  have hL := hX.2.2.2
  obtain ⟨k1, hk1⟩ : ∃ k, k = fN (xs (6 * j + 1)) % (z + 1) := ⟨_, rfl⟩
  obtain ⟨k2, hk2⟩ : ∃ k, k = fN (xs (6 * j + 2)) % (z - k1 + 1) := ⟨_, rfl⟩
  refine lv_aload_n hx hb dL_law_175 rfl (lv_at hl 1 rfl) ?_
  refine lv_aload_n hx hb dL_law_176 rfl (lv_at hl 0 rfl) ?_
  refine lv_iload_n hx hb dL_law_177 rfl (lv_at hl 3 rfl) ?_
  refine lv_iconst (v := nI (1)) hx hb dL_law_178 (by decide) ?_
  refine lv_iadd hx hb dL_law_179 ?_
  refine tp_i (y := nI (6 * j + 1)) (nI_add (6 * j) (1)) ?_
  refine g_sld (j := 6 * j + 1) hx hb hX h (by omega) dL_law_180 ?_
  refine lv_aload_n hx hb dL_law_181 rfl (lv_at hl 0 rfl) ?_
  refine lv_iload_n hx hb dL_law_182 rfl (lv_at hl 3 rfl) ?_
  refine lv_iconst (v := nI (2)) hx hb dL_law_183 (by decide) ?_
  refine lv_iadd hx hb dL_law_184 ?_
  refine tp_i (y := nI (6 * j + 2)) (nI_add (6 * j) (2)) ?_
  refine g_sld (j := 6 * j + 2) hx hb hX h (by omega) dL_law_185 ?_
  refine kVi (Cn := "SmDigestDesk") (wr := [aB G ou 64 (of), oM mo [.ref mou, .ref mtx, .int (nI (z)), .ref mms, .int (nI (n)), .ref mwa, .ref mva, .ref mra], aB G mou 64 (of), aB G mtx 1024 (t), aB G mms 16384 (g), aI G mwa 68 (w0), aI G mva 8 (v0), aI G mra 8 (r0)]) (rest := []) (na := 2) hx hb hml C h (c_X0_feed l G x d ou tx pu xb va ia wa n z k1 k2 _ (xs (6 * j + 1)) (xs (6 * j + 2)) xbo xo v iw wk xf t (feedT g n k1 k2 t) hz hn hk1 hk2 feedT_in (feedT_Bt hg ht n k1 k2) (hD.congr feedT_lo)) (lw_V q124 q125 q126 q15 q127) (by decide +kernel) rfl ⟨Nat.le_of_ble_eq_true rfl, Nat.le_of_ble_eq_true rfl⟩ 0 rfl rfl rfl [0, 1, 2, 3, 4, 5, 7] (by decide) rfl [6, 8, 9, 10, 11, 12, 13, 14] (by decide) rfl (by decide) hl.1 rfl (Nat.le_of_ble_eq_true rfl) ⟨by show _ ≤ 600000; omega, by show _ ≤ 7302250; omega⟩ dL_law_186 (fun rv1 u H locs hp1 h => ?_)
  obtain ⟨v2, iw2, wk2, xf2, xo2, xbo2⟩ := u
  have h : HS G A s _ _ [aB G ou 64 (of), oM mo [.ref mou, .ref mtx, .int (nI (z)), .ref mms, .int (nI (n)), .ref mwa, .ref mva, .ref mra], aB G mou 64 (of), aB G mtx 1024 (t), aB G mms 16384 (g), aI G mwa 68 (w0), aI G mva 8 (v0), aI G mra 8 (r0), oX x [.ref d, .ref ou, .int (nI (fedN n k2)), .ref tx, .int (nI (z))], oD d [.ref pu, .ref xb, .int (xbo2), .long (lN (fedN n k2)), .ref va, .ref ia, .int (xo2), .ref wa], aI G va 8 (v2), aI G ia 16 (iw2), aI G wa 68 (wk2), aB G xb 4 (xf2), aB G tx 1024 (t)] := h
  obtain rfl : rv1 = fedR n k2 := hp1.1
  refine lv_aload_n hx hb dL_law_189 rfl (lv_at hl 2 rfl) ?_
  refine lv_aload_n hx hb dL_law_190 rfl (lv_at hl 0 rfl) ?_
  refine lv_iload_n hx hb dL_law_191 rfl (lv_at hl 3 rfl) ?_
  refine lv_iconst (v := nI (1)) hx hb dL_law_192 (by decide) ?_
  refine lv_iadd hx hb dL_law_193 ?_
  refine tp_i (y := nI (6 * j + 1)) (nI_add (6 * j) (1)) ?_
  refine g_sld (j := 6 * j + 1) hx hb hX h (by omega) dL_law_194 ?_
  refine lv_aload_n hx hb dL_law_195 rfl (lv_at hl 0 rfl) ?_
  refine lv_iload_n hx hb dL_law_196 rfl (lv_at hl 3 rfl) ?_
  refine lv_iconst (v := nI (2)) hx hb dL_law_197 (by decide) ?_
  refine lv_iadd hx hb dL_law_198 ?_
  refine tp_i (y := nI (6 * j + 2)) (nI_add (6 * j) (2)) ?_
  refine g_sld (j := 6 * j + 2) hx hb hX h (by omega) dL_law_199 ?_
  refine kVi (Cn := "SmDigestDeskModel") (wr := [aB G ou 64 (of), aB G mou 64 (of), aI G mwa 68 (w0), aI G mva 8 (v0), aI G mra 8 (r0), oX x [.ref d, .ref ou, .int (nI (fedN n k2)), .ref tx, .int (nI (z))], oD d [.ref pu, .ref xb, .int (xbo2), .long (lN (fedN n k2)), .ref va, .ref ia, .int (xo2), .ref wa], aI G va 8 (v2), aI G ia 16 (iw2), aI G wa 68 (wk2), aB G xb 4 (xf2), aB G tx 1024 (t)]) (rest := [.int (fedR n k2)]) (na := 2) hx hb hml C h (c_X3_feed l G mo mou mtx mms mwa mva mra n z k1 k2 _ (xs (6 * j + 1)) (xs (6 * j + 2)) g t hz hn hk1 hk2 ht) (lw_V q296 q297 q298 q20 q299) (by decide +kernel) rfl ⟨Nat.le_of_ble_eq_true rfl, Nat.le_of_ble_eq_true rfl⟩ 1 rfl rfl rfl [1, 4, 3] (by decide) rfl [0, 2, 5, 6, 7, 8, 9, 10, 11, 12, 13, 14] (by decide) rfl (by decide) hl.1 rfl (Nat.le_of_ble_eq_true rfl) ⟨by show _ ≤ 600000; omega, by show _ ≤ 7302250; omega⟩ dL_law_200 (fun rv2 u2 H locs hp2 h => ?_)
  have h : HS G A s _ _ [aB G ou 64 (of), aB G mou 64 (of), aI G mwa 68 (w0), aI G mva 8 (v0), aI G mra 8 (r0), oX x [.ref d, .ref ou, .int (nI (fedN n k2)), .ref tx, .int (nI (z))], oD d [.ref pu, .ref xb, .int (xbo2), .long (lN (fedN n k2)), .ref va, .ref ia, .int (xo2), .ref wa], aI G va 8 (v2), aI G ia 16 (iw2), aI G wa 68 (wk2), aB G xb 4 (xf2), aB G tx 1024 (t), oM mo [.ref mou, .ref mtx, .int (nI (z)), .ref mms, .int (nI (fedN n k2)), .ref mwa, .ref mva, .ref mra], aB G mms 16384 (feedT g n k1 k2 t), aB G mtx 1024 (t)] := h
  obtain rfl : rv2 = fedR n k2 := hp2
  refine lv_icmp_eq (tgt := 278) hx hb dL_law_203 (by decide) (fun _ => ?_) (fun c_ => absurd (rfl) c_)
  have h := h.sub (ws' := [oX x [.ref d, .ref ou, .int (nI (fedN n k2)), .ref tx, .int (nI (z))], oD d [.ref pu, .ref xb, .int (xbo2), .long (lN (fedN n k2)), .ref va, .ref ia, .int (xo2), .ref wa], aI G va 8 (v2), aI G ia 16 (iw2), aI G wa 68 (wk2), aB G xb 4 (xf2), aB G ou 64 (of), aB G tx 1024 (t), oM mo [.ref mou, .ref mtx, .int (nI (z)), .ref mms, .int (nI (fedN n k2)), .ref mwa, .ref mva, .ref mra], aB G mou 64 (of), aB G mtx 1024 (t), aB G mms 16384 (feedT g n k1 k2 t), aI G mwa 68 (w0), aI G mva 8 (v0), aI G mra 8 (r0)]) [5, 6, 7, 8, 9, 10, 0, 11, 12, 1, 14, 13, 2, 3, 4] (by decide) rfl
  refine W.widen (k := 15 + 5 * (j + 1)) (n := 18761 + 104 * (j + 1)) (by omega) (by omega) ?_
  exact kx H locs ⟨d, ou, tx, pu, xb, va, ia, wa, mou, mtx, mms, mwa, mva, mra, fedN n k2, z, xbo2, xo2, v2, iw2, wk2, xf2, of, t, feedT g n k1 k2 t, w0, v0, r0, ⟨fedN_le hn, hz, ht, feedT_Bt hg ht n k1 k2, hp1.2⟩, h⟩
set_option maxHeartbeats 4000000 in
theorem lc_one {p : Program} {l : Launch} {e : Env} {s : State} {m : MethodId} {args : Array Value} {below : List Frame} {meth : Method} {c : Code} {Q : State → Prop} {G : GG} {A : Nat → Prop} {b Ln : Nat} {xs : Nat → Int32} {x mo : Nat} {j : Nat} {H : Heap} {locs : List Loc} {ls : Array Slot} (hx : p.tables.exec = Jvm.exec) (hb : c.code = cL_law) (hml : c.maxLocals = 4) (C : CX G A s args m "SmDigestDeskLaw") (hX : LX A s b Ln xs) (hj : 6 * j + 6 ≤ Ln) (hI : LI G A s x mo H locs) (hl : lv_has ls 4 [(0, .ref b), (1, .ref x), (2, .ref mo), (3, .int (nI (6 * j)))])
    (kx : ∀ (H : Heap) (locs : List Loc), LI G A s x mo H locs → W p l e room_1 s m args below meth c H locs (15 + 5 * (j + 1)) (18761 + 104 * (j + 1)) Q (F0 m 278 ls [])) :
    W p l e room_1 s m args below meth c H locs (15 + 5 * j) (18761 + 104 * j) Q (F0 m 208 ls []) := by
  obtain ⟨d, ou, tx, pu, xb, va, ia, wa, mou, mtx, mms, mwa, mva, mra, n, z, xbo, xo, v, iw, wk, xf, of, t, g, w0, v0, r0, ⟨hn, hz, ht, hg, hD⟩, h⟩ := hI
  have hL := hX.2.2.2
  refine lv_aload_n hx hb dL_law_208 rfl (lv_at hl 1 rfl) ?_
  refine lv_aload_n hx hb dL_law_209 rfl (lv_at hl 0 rfl) ?_
  refine lv_iload_n hx hb dL_law_210 rfl (lv_at hl 3 rfl) ?_
  refine lv_iconst (v := nI (1)) hx hb dL_law_211 (by decide) ?_
  refine lv_iadd hx hb dL_law_212 ?_
  refine tp_i (y := nI (6 * j + 1)) (nI_add (6 * j) (1)) ?_
  refine g_sld (j := 6 * j + 1) hx hb hX h (by omega) dL_law_213 ?_
  refine kVi (Cn := "SmDigestDesk") (wr := [aB G ou 64 (of), aB G tx 1024 (t), oM mo [.ref mou, .ref mtx, .int (nI (z)), .ref mms, .int (nI (n)), .ref mwa, .ref mva, .ref mra], aB G mou 64 (of), aB G mtx 1024 (t), aB G mms 16384 (g), aI G mwa 68 (w0), aI G mva 8 (v0), aI G mra 8 (r0)]) (rest := []) (na := 1) hx hb hml C h (c_X0_one l G x d ou tx pu xb va ia wa n z _ (xs (6 * j + 1)) xbo xo v iw wk xf (oneT g n ((xs (6 * j + 1)).toInt8.toInt32)) hn oneT_in (hD.congr oneT_lo)) (lw_V q184 q185 q186 q15 q187) (by decide +kernel) rfl ⟨Nat.le_of_ble_eq_true rfl, Nat.le_of_ble_eq_true rfl⟩ 0 rfl rfl rfl [0, 1, 2, 3, 4, 5] (by decide) rfl [6, 7, 8, 9, 10, 11, 12, 13, 14] (by decide) rfl (by decide) hl.1 rfl (Nat.le_of_ble_eq_true rfl) ⟨by show _ ≤ 600000; omega, by show _ ≤ 7302250; omega⟩ dL_law_214 (fun rv1 u H locs hp1 h => ?_)
  obtain ⟨v2, iw2, wk2, xf2, xo2, xbo2⟩ := u
  have h : HS G A s _ _ [aB G ou 64 (of), aB G tx 1024 (t), oM mo [.ref mou, .ref mtx, .int (nI (z)), .ref mms, .int (nI (n)), .ref mwa, .ref mva, .ref mra], aB G mou 64 (of), aB G mtx 1024 (t), aB G mms 16384 (g), aI G mwa 68 (w0), aI G mva 8 (v0), aI G mra 8 (r0), oX x [.ref d, .ref ou, .int (nI (fedN n 1)), .ref tx, .int (nI (z))], oD d [.ref pu, .ref xb, .int (xbo2), .long (lN (fedN n 1)), .ref va, .ref ia, .int (xo2), .ref wa], aI G va 8 (v2), aI G ia 16 (iw2), aI G wa 68 (wk2), aB G xb 4 (xf2)] := h
  obtain rfl : rv1 = fedR n 1 := hp1.1
  refine lv_aload_n hx hb dL_law_217 rfl (lv_at hl 2 rfl) ?_
  refine lv_aload_n hx hb dL_law_218 rfl (lv_at hl 0 rfl) ?_
  refine lv_iload_n hx hb dL_law_219 rfl (lv_at hl 3 rfl) ?_
  refine lv_iconst (v := nI (1)) hx hb dL_law_220 (by decide) ?_
  refine lv_iadd hx hb dL_law_221 ?_
  refine tp_i (y := nI (6 * j + 1)) (nI_add (6 * j) (1)) ?_
  refine g_sld (j := 6 * j + 1) hx hb hX h (by omega) dL_law_222 ?_
  refine kVi (Cn := "SmDigestDeskModel") (wr := [aB G ou 64 (of), aB G tx 1024 (t), aB G mou 64 (of), aB G mtx 1024 (t), aI G mwa 68 (w0), aI G mva 8 (v0), aI G mra 8 (r0), oX x [.ref d, .ref ou, .int (nI (fedN n 1)), .ref tx, .int (nI (z))], oD d [.ref pu, .ref xb, .int (xbo2), .long (lN (fedN n 1)), .ref va, .ref ia, .int (xo2), .ref wa], aI G va 8 (v2), aI G ia 16 (iw2), aI G wa 68 (wk2), aB G xb 4 (xf2)]) (rest := [.int (fedR n 1)]) (na := 1) hx hb hml C h (c_X3_one l G mo mou mtx mms mwa mva mra n z _ (xs (6 * j + 1)) g hn) (lw_V q304 q305 q306 q20 q307) (by decide +kernel) rfl ⟨Nat.le_of_ble_eq_true rfl, Nat.le_of_ble_eq_true rfl⟩ 2 rfl rfl rfl [2, 5] (by decide) rfl [0, 1, 3, 4, 6, 7, 8, 9, 10, 11, 12, 13, 14] (by decide) rfl (by decide) hl.1 rfl (Nat.le_of_ble_eq_true rfl) ⟨by show _ ≤ 600000; omega, by show _ ≤ 7302250; omega⟩ dL_law_223 (fun rv2 u2 H locs hp2 h => ?_)
  have h : HS G A s _ _ [aB G ou 64 (of), aB G tx 1024 (t), aB G mou 64 (of), aB G mtx 1024 (t), aI G mwa 68 (w0), aI G mva 8 (v0), aI G mra 8 (r0), oX x [.ref d, .ref ou, .int (nI (fedN n 1)), .ref tx, .int (nI (z))], oD d [.ref pu, .ref xb, .int (xbo2), .long (lN (fedN n 1)), .ref va, .ref ia, .int (xo2), .ref wa], aI G va 8 (v2), aI G ia 16 (iw2), aI G wa 68 (wk2), aB G xb 4 (xf2), oM mo [.ref mou, .ref mtx, .int (nI (z)), .ref mms, .int (nI (fedN n 1)), .ref mwa, .ref mva, .ref mra], aB G mms 16384 (oneT g n ((xs (6 * j + 1)).toInt8.toInt32))] := h
  obtain rfl : rv2 = fedR n 1 := hp2
  refine lv_icmp_eq (tgt := 278) hx hb dL_law_226 (by decide) (fun _ => ?_) (fun c_ => absurd (rfl) c_)
  have h := h.sub (ws' := [oX x [.ref d, .ref ou, .int (nI (fedN n 1)), .ref tx, .int (nI (z))], oD d [.ref pu, .ref xb, .int (xbo2), .long (lN (fedN n 1)), .ref va, .ref ia, .int (xo2), .ref wa], aI G va 8 (v2), aI G ia 16 (iw2), aI G wa 68 (wk2), aB G xb 4 (xf2), aB G ou 64 (of), aB G tx 1024 (t), oM mo [.ref mou, .ref mtx, .int (nI (z)), .ref mms, .int (nI (fedN n 1)), .ref mwa, .ref mva, .ref mra], aB G mou 64 (of), aB G mtx 1024 (t), aB G mms 16384 (oneT g n ((xs (6 * j + 1)).toInt8.toInt32)), aI G mwa 68 (w0), aI G mva 8 (v0), aI G mra 8 (r0)]) [7, 8, 9, 10, 11, 12, 0, 1, 13, 2, 3, 14, 4, 5, 6] (by decide) rfl
  refine W.widen (k := 15 + 5 * (j + 1)) (n := 18761 + 104 * (j + 1)) (by omega) (by omega) ?_
  exact kx H locs ⟨d, ou, tx, pu, xb, va, ia, wa, mou, mtx, mms, mwa, mva, mra, fedN n 1, z, xbo2, xo2, v2, iw2, wk2, xf2, of, t, oneT g n ((xs (6 * j + 1)).toInt8.toInt32), w0, v0, r0, ⟨fedN_le hn, hz, ht, oneT_Bt hg n (xs (6 * j + 1)), hp1.2⟩, h⟩
set_option maxHeartbeats 4000000 in
theorem lc_close {p : Program} {l : Launch} {e : Env} {s : State} {m : MethodId} {args : Array Value} {below : List Frame} {meth : Method} {c : Code} {Q : State → Prop} {G : GG} {A : Nat → Prop} {b Ln : Nat} {xs : Nat → Int32} {x mo : Nat} {j : Nat} {H : Heap} {locs : List Loc} {ls : Array Slot} (hx : p.tables.exec = Jvm.exec) (hb : c.code = cL_law) (hml : c.maxLocals = 4) (C : CX G A s args m "SmDigestDeskLaw") (hX : LX A s b Ln xs) (hj : 6 * j + 6 ≤ Ln) (hI : LI G A s x mo H locs) (hl : lv_has ls 4 [(0, .ref b), (1, .ref x), (2, .ref mo), (3, .int (nI (6 * j)))])
    (kx : ∀ (H : Heap) (locs : List Loc), LI G A s x mo H locs → W p l e room_1 s m args below meth c H locs (15 + 5 * (j + 1)) (18761 + 104 * (j + 1)) Q (F0 m 278 ls [])) :
    W p l e room_1 s m args below meth c H locs (15 + 5 * j) (18761 + 104 * j) Q (F0 m 231 ls []) := by
  obtain ⟨d, ou, tx, pu, xb, va, ia, wa, mou, mtx, mms, mwa, mva, mra, n, z, xbo, xo, v, iw, wk, xf, of, t, g, w0, v0, r0, ⟨hn, hz, ht, hg, hD⟩, h⟩ := hI
  have hL := hX.2.2.2
  refine lv_aload_n hx hb dL_law_231 rfl (lv_at hl 1 rfl) ?_
  refine kVi (Cn := "SmDigestDesk") (wr := [aB G tx 1024 (t), oM mo [.ref mou, .ref mtx, .int (nI (z)), .ref mms, .int (nI (n)), .ref mwa, .ref mva, .ref mra], aB G mou 64 (of), aB G mtx 1024 (t), aB G mms 16384 (g), aI G mwa 68 (w0), aI G mva 8 (v0), aI G mra 8 (r0)]) (rest := []) (na := 0) hx hb hml C h (c_X0_close l G x d ou tx pu xb va ia wa n z _ xbo xo v iw wk xf of g g hn hD) (lw_V q197 q198 q199 q15 q200) (by decide +kernel) rfl ⟨Nat.le_of_ble_eq_true rfl, Nat.le_of_ble_eq_true rfl⟩ 0 rfl rfl rfl [0, 1, 2, 3, 4, 5, 6] (by decide) rfl [7, 8, 9, 10, 11, 12, 13, 14] (by decide) rfl (by decide) hl.1 rfl (Nat.le_of_ble_eq_true rfl) ⟨by show _ ≤ 600000; omega, by show _ ≤ 7302250; omega⟩ dL_law_232 (fun rv1 u H locs hp1 h => ?_)
  obtain ⟨⟨v2, iw2, wk2, xf2, xo2, xbo2⟩, v3⟩ := u
  have h : HS G A s _ _ [aB G tx 1024 (t), oM mo [.ref mou, .ref mtx, .int (nI (z)), .ref mms, .int (nI (n)), .ref mwa, .ref mva, .ref mra], aB G mou 64 (of), aB G mtx 1024 (t), aB G mms 16384 (g), aI G mwa 68 (w0), aI G mva 8 (v0), aI G mra 8 (r0), oX x [.ref d, .ref ou, .int (nI (0)), .ref tx, .int (nI (z))], oD d [.ref pu, .ref xb, .int (xbo2), .long (0), .ref va, .ref ia, .int (xo2), .ref wa], aI G va 8 (v2), aI G ia 16 (iw2), aI G wa 68 (wk2), aB G xb 4 (xf2), aB G ou 64 (upk of 0 (obs v3) 32)] := h
  obtain rfl : rv1 = nI 32 := hp1.1
  refine lv_aload_n hx hb dL_law_235 rfl (lv_at hl 2 rfl) ?_
  refine kVi (Cn := "SmDigestDeskModel") (wr := [aB G tx 1024 (t), aB G mtx 1024 (t), oX x [.ref d, .ref ou, .int (nI (0)), .ref tx, .int (nI (z))], oD d [.ref pu, .ref xb, .int (xbo2), .long (0), .ref va, .ref ia, .int (xo2), .ref wa], aI G va 8 (v2), aI G ia 16 (iw2), aI G wa 68 (wk2), aB G xb 4 (xf2), aB G ou 64 (upk of 0 (obs v3) 32)]) (rest := [.int (nI 32)]) (na := 0) hx hb hml C h (c_X3_close l G mo mou mtx mms mwa mva mra n z _ g of w0 v0 r0 hn) (lw_V q308 q309 q310 q20 q311) (by decide +kernel) rfl ⟨Nat.le_of_ble_eq_true rfl, Nat.le_of_ble_eq_true rfl⟩ 1 rfl rfl rfl [1, 2, 4, 5, 6, 7] (by decide) rfl [0, 3, 8, 9, 10, 11, 12, 13, 14] (by decide) rfl (by decide) hl.1 rfl (Nat.le_of_ble_eq_true rfl) ⟨by show _ ≤ 600000; omega, by show _ ≤ 7302250; omega⟩ dL_law_236 (fun rv2 u H locs hp2 h => ?_)
  obtain ⟨w2, v4, r2⟩ := u
  have h : HS G A s _ _ [aB G tx 1024 (t), aB G mtx 1024 (t), oX x [.ref d, .ref ou, .int (nI (0)), .ref tx, .int (nI (z))], oD d [.ref pu, .ref xb, .int (xbo2), .long (0), .ref va, .ref ia, .int (xo2), .ref wa], aI G va 8 (v2), aI G ia 16 (iw2), aI G wa 68 (wk2), aB G xb 4 (xf2), aB G ou 64 (upk of 0 (obs v3) 32), oM mo [.ref mou, .ref mtx, .int (nI (z)), .ref mms, .int (nI (0)), .ref mwa, .ref mva, .ref mra], aB G mou 64 (upk of 0 (obs v4) 32), aB G mms 16384 (g), aI G mwa 68 (w2), aI G mva 8 (v4), aI G mra 8 (r2)] := h
  obtain rfl : rv2 = nI 32 := hp2.1
  refine lv_icmp_eq (tgt := 278) hx hb dL_law_239 (by decide) (fun _ => ?_) (fun c_ => absurd (rfl) c_)
  have eo : upk of 0 (obs v4) 32 = upk of 0 (obs v3) 32 := upk_congr 32 (obs_congr (v8_inj (hp2.2.trans hp1.2.2.symm)))
  rw [eo] at h
  have h := h.sub (ws' := [oX x [.ref d, .ref ou, .int (nI (0)), .ref tx, .int (nI (z))], oD d [.ref pu, .ref xb, .int (xbo2), .long (0), .ref va, .ref ia, .int (xo2), .ref wa], aI G va 8 (v2), aI G ia 16 (iw2), aI G wa 68 (wk2), aB G xb 4 (xf2), aB G ou 64 (upk of 0 (obs v3) 32), aB G tx 1024 (t), oM mo [.ref mou, .ref mtx, .int (nI (z)), .ref mms, .int (nI (0)), .ref mwa, .ref mva, .ref mra], aB G mou 64 (upk of 0 (obs v3) 32), aB G mtx 1024 (t), aB G mms 16384 (g), aI G mwa 68 (w2), aI G mva 8 (v4), aI G mra 8 (r2)]) [2, 3, 4, 5, 6, 7, 8, 0, 9, 10, 1, 11, 12, 13, 14] (by decide) rfl
  refine W.widen (k := 15 + 5 * (j + 1)) (n := 18761 + 104 * (j + 1)) (by omega) (by omega) ?_
  exact kx H locs ⟨d, ou, tx, pu, xb, va, ia, wa, mou, mtx, mms, mwa, mva, mra, 0, z, xbo2, xo2, v2, iw2, wk2, xf2, upk of 0 (obs v3) 32, t, g, w2, v4, r2, ⟨Nat.zero_le _, hz, ht, hg, hp1.2.1⟩, h⟩
set_option maxHeartbeats 4000000 in
theorem lc_drop {p : Program} {l : Launch} {e : Env} {s : State} {m : MethodId} {args : Array Value} {below : List Frame} {meth : Method} {c : Code} {Q : State → Prop} {G : GG} {A : Nat → Prop} {b Ln : Nat} {xs : Nat → Int32} {x mo : Nat} {j : Nat} {H : Heap} {locs : List Loc} {ls : Array Slot} (hx : p.tables.exec = Jvm.exec) (hb : c.code = cL_law) (hml : c.maxLocals = 4) (C : CX G A s args m "SmDigestDeskLaw") (hX : LX A s b Ln xs) (hj : 6 * j + 6 ≤ Ln) (hI : LI G A s x mo H locs) (hl : lv_has ls 4 [(0, .ref b), (1, .ref x), (2, .ref mo), (3, .int (nI (6 * j)))])
    (kx : ∀ (H : Heap) (locs : List Loc), LI G A s x mo H locs → W p l e room_1 s m args below meth c H locs (15 + 5 * (j + 1)) (18761 + 104 * (j + 1)) Q (F0 m 278 ls [])) :
    W p l e room_1 s m args below meth c H locs (15 + 5 * j) (18761 + 104 * j) Q (F0 m 244 ls []) := by
  obtain ⟨d, ou, tx, pu, xb, va, ia, wa, mou, mtx, mms, mwa, mva, mra, n, z, xbo, xo, v, iw, wk, xf, of, t, g, w0, v0, r0, ⟨hn, hz, ht, hg, hD⟩, h⟩ := hI
  have hL := hX.2.2.2
  refine lv_aload_n hx hb dL_law_244 rfl (lv_at hl 1 rfl) ?_
  refine kVv (Cn := "SmDigestDesk") (wr := [aB G ou 64 (of), aB G tx 1024 (t), oM mo [.ref mou, .ref mtx, .int (nI (z)), .ref mms, .int (nI (n)), .ref mwa, .ref mva, .ref mra], aB G mou 64 (of), aB G mtx 1024 (t), aB G mms 16384 (g), aI G mwa 68 (w0), aI G mva 8 (v0), aI G mra 8 (r0)]) (rest := []) (na := 0) hx hb hml C h (c_X0_drop l G x d ou tx pu xb va ia wa n z _ xbo xo v iw wk xf g) (lw_V q233 q234 q235 q15 q236) (by decide +kernel) rfl ⟨Nat.le_of_ble_eq_true rfl, Nat.le_of_ble_eq_true rfl⟩ 0 rfl rfl rfl [0, 1, 2, 3, 4, 5] (by decide) rfl [6, 7, 8, 9, 10, 11, 12, 13, 14] (by decide) rfl (by decide) hl.1 rfl (Nat.le_of_ble_eq_true rfl) ⟨by show _ ≤ 600000; omega, by show _ ≤ 7302250; omega⟩ dL_law_245 (fun u H locs hp1 h => ?_)
  obtain ⟨v2, iw2, wk2, xf2, xo2, xbo2⟩ := u
  have h : HS G A s _ _ [aB G ou 64 (of), aB G tx 1024 (t), oM mo [.ref mou, .ref mtx, .int (nI (z)), .ref mms, .int (nI (n)), .ref mwa, .ref mva, .ref mra], aB G mou 64 (of), aB G mtx 1024 (t), aB G mms 16384 (g), aI G mwa 68 (w0), aI G mva 8 (v0), aI G mra 8 (r0), oX x [.ref d, .ref ou, .int (nI (0)), .ref tx, .int (nI (z))], oD d [.ref pu, .ref xb, .int (xbo2), .long (0), .ref va, .ref ia, .int (xo2), .ref wa], aI G va 8 (v2), aI G ia 16 (iw2), aI G wa 68 (wk2), aB G xb 4 (xf2)] := h
  refine lv_aload_n hx hb dL_law_248 rfl (lv_at hl 2 rfl) ?_
  refine kVv (Cn := "SmDigestDeskModel") (wr := [aB G ou 64 (of), aB G tx 1024 (t), aB G mou 64 (of), aB G mtx 1024 (t), aB G mms 16384 (g), aI G mwa 68 (w0), aI G mva 8 (v0), aI G mra 8 (r0), oX x [.ref d, .ref ou, .int (nI (0)), .ref tx, .int (nI (z))], oD d [.ref pu, .ref xb, .int (xbo2), .long (0), .ref va, .ref ia, .int (xo2), .ref wa], aI G va 8 (v2), aI G ia 16 (iw2), aI G wa 68 (wk2), aB G xb 4 (xf2)]) (rest := []) (na := 0) hx hb hml C h (c_X3_drop l G mo mou mtx mms mwa mva mra n z _ 0) (lw_V q348 q349 q350 q20 q351) (by decide +kernel) rfl ⟨Nat.le_of_ble_eq_true rfl, Nat.le_of_ble_eq_true rfl⟩ 2 rfl rfl rfl [2] (by decide) rfl [0, 1, 3, 4, 5, 6, 7, 8, 9, 10, 11, 12, 13, 14] (by decide) rfl (by decide) hl.1 rfl (Nat.le_of_ble_eq_true rfl) ⟨by show _ ≤ 600000; omega, by show _ ≤ 7302250; omega⟩ dL_law_249 (fun u2 H locs hp2 h => ?_)
  have h : HS G A s _ _ [aB G ou 64 (of), aB G tx 1024 (t), aB G mou 64 (of), aB G mtx 1024 (t), aB G mms 16384 (g), aI G mwa 68 (w0), aI G mva 8 (v0), aI G mra 8 (r0), oX x [.ref d, .ref ou, .int (nI (0)), .ref tx, .int (nI (z))], oD d [.ref pu, .ref xb, .int (xbo2), .long (0), .ref va, .ref ia, .int (xo2), .ref wa], aI G va 8 (v2), aI G ia 16 (iw2), aI G wa 68 (wk2), aB G xb 4 (xf2), oM mo [.ref mou, .ref mtx, .int (nI (z)), .ref mms, .int (nI (0)), .ref mwa, .ref mva, .ref mra]] := h
  refine lv_goto (tgt := 278) hx hb dL_law_252 (by decide) ?_
  have h := h.sub (ws' := [oX x [.ref d, .ref ou, .int (nI (0)), .ref tx, .int (nI (z))], oD d [.ref pu, .ref xb, .int (xbo2), .long (0), .ref va, .ref ia, .int (xo2), .ref wa], aI G va 8 (v2), aI G ia 16 (iw2), aI G wa 68 (wk2), aB G xb 4 (xf2), aB G ou 64 (of), aB G tx 1024 (t), oM mo [.ref mou, .ref mtx, .int (nI (z)), .ref mms, .int (nI (0)), .ref mwa, .ref mva, .ref mra], aB G mou 64 (of), aB G mtx 1024 (t), aB G mms 16384 (g), aI G mwa 68 (w0), aI G mva 8 (v0), aI G mra 8 (r0)]) [8, 9, 10, 11, 12, 13, 0, 1, 14, 2, 3, 4, 5, 6, 7] (by decide) rfl
  refine W.widen (k := 15 + 5 * (j + 1)) (n := 18761 + 104 * (j + 1)) (by omega) (by omega) ?_
  exact kx H locs ⟨d, ou, tx, pu, xb, va, ia, wa, mou, mtx, mms, mwa, mva, mra, 0, z, xbo2, xo2, v2, iw2, wk2, xf2, of, t, g, w0, v0, r0, ⟨Nat.zero_le _, hz, ht, hg, hp1⟩, h⟩
set_option maxHeartbeats 4000000 in
theorem lc_out {p : Program} {l : Launch} {e : Env} {s : State} {m : MethodId} {args : Array Value} {below : List Frame} {meth : Method} {c : Code} {Q : State → Prop} {G : GG} {A : Nat → Prop} {b Ln : Nat} {xs : Nat → Int32} {x mo : Nat} {j : Nat} {H : Heap} {locs : List Loc} {ls : Array Slot} (hx : p.tables.exec = Jvm.exec) (hb : c.code = cL_law) (hml : c.maxLocals = 4) (C : CX G A s args m "SmDigestDeskLaw") (hX : LX A s b Ln xs) (hj : 6 * j + 6 ≤ Ln) (hI : LI G A s x mo H locs) (hl : lv_has ls 4 [(0, .ref b), (1, .ref x), (2, .ref mo), (3, .int (nI (6 * j)))])
    (kx : ∀ (H : Heap) (locs : List Loc), LI G A s x mo H locs → W p l e room_1 s m args below meth c H locs (15 + 5 * (j + 1)) (18761 + 104 * (j + 1)) Q (F0 m 278 ls [])) :
    W p l e room_1 s m args below meth c H locs (15 + 5 * j) (18761 + 104 * j) Q (F0 m 255 ls []) := by
  obtain ⟨d, ou, tx, pu, xb, va, ia, wa, mou, mtx, mms, mwa, mva, mra, n, z, xbo, xo, v, iw, wk, xf, of, t, g, w0, v0, r0, ⟨hn, hz, ht, hg, hD⟩, h⟩ := hI
  have hL := hX.2.2.2
  refine lv_aload_n hx hb dL_law_255 rfl (lv_at hl 1 rfl) ?_
  refine lv_aload_n hx hb dL_law_256 rfl (lv_at hl 0 rfl) ?_
  refine lv_iload_n hx hb dL_law_257 rfl (lv_at hl 3 rfl) ?_
  refine lv_iconst (v := nI (1)) hx hb dL_law_258 (by decide) ?_
  refine lv_iadd hx hb dL_law_259 ?_
  refine tp_i (y := nI (6 * j + 1)) (nI_add (6 * j) (1)) ?_
  refine g_sld (j := 6 * j + 1) hx hb hX h (by omega) dL_law_260 ?_
  refine kVp (Cn := "SmDigestDesk") (rest := []) (na := 1) hx hb hml C h (c_X0_out l G x d ou tx n z _ (xs (6 * j + 1)) of) (lw_V q244 q245 q246 q15 q247) (by decide +kernel) rfl ⟨Nat.le_of_ble_eq_true rfl, Nat.le_of_ble_eq_true rfl⟩ 0 rfl rfl rfl [0, 6] (by decide) rfl hl.1 rfl (Nat.le_of_ble_eq_true rfl) ⟨by show _ ≤ 600000; omega, by show _ ≤ 7302250; omega⟩ dL_law_261 (fun rv1 hp1 => ?_)
  obtain rfl : rv1 = (of (fN (xs (6 * j + 1)) % 64)) &&& 255 := hp1
  refine lv_aload_n hx hb dL_law_264 rfl (lv_at hl 2 rfl) ?_
  refine lv_aload_n hx hb dL_law_265 rfl (lv_at hl 0 rfl) ?_
  refine lv_iload_n hx hb dL_law_266 rfl (lv_at hl 3 rfl) ?_
  refine lv_iconst (v := nI (1)) hx hb dL_law_267 (by decide) ?_
  refine lv_iadd hx hb dL_law_268 ?_
  refine tp_i (y := nI (6 * j + 1)) (nI_add (6 * j) (1)) ?_
  refine g_sld (j := 6 * j + 1) hx hb hX h (by omega) dL_law_269 ?_
  refine kVp (Cn := "SmDigestDeskModel") (rest := [.int ((of (fN (xs (6 * j + 1)) % 64)) &&& 255)]) (na := 1) hx hb hml C h (c_X3_out l G mo mou mtx mms mwa mva mra n z _ (xs (6 * j + 1)) of) (lw_V q352 q353 q354 q20 q355) (by decide +kernel) rfl ⟨Nat.le_of_ble_eq_true rfl, Nat.le_of_ble_eq_true rfl⟩ 8 rfl rfl rfl [8, 9] (by decide) rfl hl.1 rfl (Nat.le_of_ble_eq_true rfl) ⟨by show _ ≤ 600000; omega, by show _ ≤ 7302250; omega⟩ dL_law_270 (fun rv2 hp2 => ?_)
  obtain rfl : rv2 = (of (fN (xs (6 * j + 1)) % 64)) &&& 255 := hp2
  refine lv_icmp_eq (tgt := 278) hx hb dL_law_273 (by decide) (fun _ => ?_) (fun c_ => absurd (rfl) c_)
  refine W.widen (k := 15 + 5 * (j + 1)) (n := 18761 + 104 * (j + 1)) (by omega) (by omega) ?_
  exact kx H locs ⟨d, ou, tx, pu, xb, va, ia, wa, mou, mtx, mms, mwa, mva, mra, n, z, xbo, xo, v, iw, wk, xf, of, t, g, w0, v0, r0, ⟨hn, hz, ht, hg, hD⟩, h⟩
end
section
/-! THE LAW: its start and its loop -/
set_option maxRecDepth 100000
/-- the Statement's word for each place of SM3Digest.T is the constant that the rounds use -/
theorem law_T : ∀ j, j < 64 → (Cond.eq (.elem (.static "SM3Digest" "T" "[I") (.int (Int32.ofNat j))) (.int (sT j))) ∈ flatC (Jvm.Cond.and given_1 narrow_1) := by decide +kernel
/-- the numbers of the classes, and the statics, at the start -/
theorem law_G {s : State} {b : Nat} (hts0 : ∀ w ∈ lw_tbl, w.before #[Value.ref b] s = true) (hgv : (Jvm.Cond.and given_1 narrow_1).before #[Value.ref b] s = true) : ∃ G : GG, KK G s ∧ ST G (fun q : Nat => s.heap.size ≤ q) s s.heap := by
  have hts : ∀ w ∈ lw_all, w.before #[Value.ref b] s = true := fun w h => hts0 w (lw_all_tbl h)
  have hs := flat_of_before _ hgv
  have hA : ∀ a : Nat, a < s.heap.size → ¬ (fun q : Nat => s.heap.size ≤ q) a := fun a h => Nat.not_le.mpr h
  obtain ⟨c0, iS0, hKn0⟩ := u_known (C := RX0) (T := TX0) (N := 5) (n := 5) hts in_X0 (hts _ q24)
  obtain ⟨c1, iS1, hKn1⟩ := u_known (C := RX2) (T := TX2) (N := 8) (n := 8) hts in_X2 (hts _ q32)
  obtain ⟨c2, iS2, hKn2⟩ := u_known (C := RX3) (T := TX3) (N := 8) (n := 8) hts in_X3 (hts _ q249)
  obtain ⟨dC, dI, hKc⟩ : ∃ (dC : Nat → ClassId) (dI : Nat → Nat → Nat), ∀ (k : Nat) (q : vw_C), vwCl[k]? = some q → u_Kn s q.1 q.2.1 q.2.2 (dC k) (dI k) := by
    refine ⟨fun k => if k = 0 then c0 else if k = 1 then c1 else c2, fun k => if k = 0 then iS0 else if k = 1 then iS1 else iS2, ?_⟩
    intro k q hq
    match k, hq with
    | 0, hq => cases hq; exact hKn0
    | 1, hq => cases hq; exact hKn1
    | 2, hq => cases hq; exact hKn2
    | k + 3, hq => simp [vwCl] at hq
  obtain ⟨cB, kB, compB, hB1, hB2, hB3⟩ := Cond.arrayClass_spec (hts _ q85)
  obtain ⟨cI, kI, compI, hI1, hI2, hI3⟩ := Cond.arrayClass_spec (hts _ q86)
  have aB : ArrOfT s cB .byte := fun n z => ⟨fun k h => (by cases h), kB, hB2, compB, hB3⟩
  have aI : ArrOfT s cI .int := fun n z => ⟨fun k h => (by cases h), kI, hI2, compI, hI3⟩
  obtain ⟨tT, eT, hT⟩ := va_Tof (args := #[Value.ref b]) (s := s) (tm := (.static "SM3Digest" "T" "[I")) (ty := .int) (N := 64) (f := fun j => .int (sT j)) (A := fun q : Nat => s.heap.size ≤ q) (by decide) (hs _ (by decide +kernel)) (va_eqt (z := 64) (hs _ (by decide +kernel))) (fun j hj => va_eqt (hs _ (law_T j hj))) hA
  obtain ⟨tA, cA, cellA, kA, eA, -⟩ := Cond.exactly_spec (args := #[Value.ref b]) (first := s) (o := none) (s := s) (idx := []) (t := (.static "CryptoServicePurpose" "ANY" "LCryptoServicePurpose;")) (cls := "CryptoServicePurpose") (hs _ (by decide +kernel))
  refine ⟨((dC, dI), (cB, cI), (tT, tA)), ⟨⟨hKc, ?_⟩, ⟨va_Nw.of rfl (hts0 _ q146), va_Nw.of rfl (hts0 _ q218), va_Nw.of rfl (hts0 _ q224)⟩, va_Fw.of (hts0 _ q135) (hts0 _ q134) (hts0 _ q140) (hts0 _ q138) (hts0 _ q136), va_Fw.of (hts0 _ q191) (hts0 _ q190) (hts0 _ q195) (hts0 _ q193) (hts0 _ q136), va_Fw.of (hts0 _ q204) (hts0 _ q203) (hts0 _ q208) (hts0 _ q206) (hts0 _ q136), va_Fw.of (hts0 _ q240) (hts0 _ q239) (hts0 _ q243) (hts0 _ q242) (hts0 _ q136)⟩, va_Zref (hts0 _ q163) (hts _ q17) eT hA, hT, va_Zref (hts0 _ q37) (hts _ q19) eA hA⟩
  intro k q hq
  match k, hq with
  | 0, hq => cases hq; exact ⟨aB, hB1⟩
  | 1, hq => cases hq; exact ⟨aI, hI1⟩
  | k + 2, hq => simp at hq
set_option maxHeartbeats 4000000 in
/-- the law's loop at its head: j calls are done -/
theorem law_loop {p : Program} {l : Launch} {e : Env} {s : State} {m : MethodId} {below : List Frame} {meth : Method} {c : Code} {G : GG} {A : Nat → Prop} {b Ln : Nat} {xs : Nat → Int32} {x mo : Nat} (hx : p.tables.exec = Jvm.exec) (hb : c.code = cL_law) (hr : meth.sig.returnType = ret) (hk : meth.locks = false) (hml : c.maxLocals = 4) (C : CX G A s #[Value.ref b] m "SmDigestDeskLaw") (hX : LX A s b Ln xs) (hAs : ∀ q, A q → s.heap.size ≤ q) :
    ∀ (k j : Nat) (H : Heap) (locs : List Loc) (ls : Array Slot), 6 * j ≤ Ln → Ln + 6 ≤ 6 * (j + k) → LI G A s x mo H locs → lv_has ls 4 [(0, .ref b), (1, .ref x), (2, .ref mo), (3, .int (nI (6 * j)))] → W p l e room_1 s m #[Value.ref b] below meth c H locs (15 + 5 * j) (18761 + 104 * j) (lw_Z below #[Value.ref b] s) (F0 m 18 ls []) := by
  have hL := hX.2.2.2
  intro k
  induction k with
  | zero =>
    intro j H locs ls h1 h2
    exact absurd h2 (by omega)
  | succ k ih =>
    intro j H locs ls h1 h2 hI hl
    have hI0 := hI
    obtain ⟨d, ou, tx, pu, xb, va, ia, wa, mou, mtx, mms, mwa, mva, mra, n, z, xbo, xo, v, iw, wk, xf, of, t, g, w0, v0, r0, -, h⟩ := hI0
    refine lv_iload_n hx hb dL_law_18 rfl (lv_at hl 3 rfl) ?_
    refine lv_aload_n hx hb dL_law_19 rfl (lv_at hl 0 rfl) ?_
    refine g_slen hx hb hX h dL_law_20 ?_
    refine lv_bipush (v := nI (6)) hx hb dL_law_21 (by decide) ?_
    refine lv_isub hx hb dL_law_23 ?_
    refine lv_icmp_gt (tgt := 284) hx hb dL_law_24 (by decide) (fun c_1 => ?_) (fun c_1 => ?_)
    · skip
      refine lv_iconst (v := 1) hx hb dL_law_284 (by decide) ?_
      refine va_forget (fun q hq => hAs _ (h.2.2.2.2 q hq)) ?_
      refine W.widen (k := 600000) (n := 7302250) (by omega) (by omega) ?_
      exact lw_ret hx hb hr hk dL_law_285
    · skip
      have hj : 6 * j + 6 ≤ Ln := by
        have : ¬ Ln < 6 * j + 6 := fun q => c_1 ((lim6 (by omega) (by omega)).mpr q)
        omega
      have kx : ∀ (H : Heap) (locs : List Loc), LI G A s x mo H locs → W p l e room_1 s m #[Value.ref b] below meth c H locs (15 + 5 * (j + 1)) (18761 + 104 * (j + 1)) (lw_Z below #[Value.ref b] s) (F0 m 278 ls []) := by
        intro H locs hI
        refine lv_iinc (v := nI (6 * j + 6)) (lv' := [(3, .int (nI (6 * j + 6))), (0, .ref b), (1, .ref x), (2, .ref mo)]) hx hb dL_law_278 hl (k := 3) rfl (ii6 (6 * j)) (by decide) rfl (fun ls hl => ?_)
        refine lv_goto (tgt := 18) hx hb dL_law_281 (by decide) ?_
        exact ih (j + 1) H locs ls (by omega) (by omega) hI (lv_sub hl [1, 2, 3, 0] rfl)
      refine lv_aload_n hx hb dL_law_27 rfl (lv_at hl 0 rfl) ?_
      refine lv_iload_n hx hb dL_law_28 rfl (lv_at hl 3 rfl) ?_
      refine g_sld (j := 6 * j) hx hb hX h (by omega) dL_law_29 ?_
      refine lv_bipush (v := 7) hx hb dL_law_30 (by decide) ?_
      refine lv_iand hx hb dL_law_32 ?_
      refine tp_i (y := nI ((xs (6 * j)).toBitVec.toNat % 2 ^ 3)) (pk_and (xs (6 * j)) 3 (by decide +kernel)) ?_
      have hk8 : (xs (6 * j)).toBitVec.toNat % 2 ^ 3 < 8 := Nat.mod_lt _ (by decide)
      generalize (xs (6 * j)).toBitVec.toNat % 2 ^ 3 = q at hk8 ⊢
      match q, hk8 with
      | 0, _ =>
        refine lv_tableIn (off := 47) (tgt := 80) hx hb dL_law_33 (by decide +kernel) (by decide +kernel) (by decide +kernel) (by decide) ?_
        exact lc_put hx hb hml C hX hj hI hl kx
      | 1, _ =>
        refine lv_tableIn (off := 100) (tgt := 133) hx hb dL_law_33 (by decide +kernel) (by decide +kernel) (by decide +kernel) (by decide) ?_
        exact lc_trim hx hb hml C hX hj hI hl kx
      | 2, _ =>
        refine lv_tableIn (off := 121) (tgt := 154) hx hb dL_law_33 (by decide +kernel) (by decide +kernel) (by decide +kernel) (by decide) ?_
        exact lc_begin hx hb hml C hX hj hI hl kx
      | 3, _ =>
        refine lv_tableIn (off := 142) (tgt := 175) hx hb dL_law_33 (by decide +kernel) (by decide +kernel) (by decide +kernel) (by decide) ?_
        exact lc_feed hx hb hml C hX hj hI hl kx
      | 4, _ =>
        refine lv_tableIn (off := 175) (tgt := 208) hx hb dL_law_33 (by decide +kernel) (by decide +kernel) (by decide +kernel) (by decide) ?_
        exact lc_one hx hb hml C hX hj hI hl kx
      | 5, _ =>
        refine lv_tableIn (off := 198) (tgt := 231) hx hb dL_law_33 (by decide +kernel) (by decide +kernel) (by decide +kernel) (by decide) ?_
        exact lc_close hx hb hml C hX hj hI hl kx
      | 6, _ =>
        refine lv_tableIn (off := 211) (tgt := 244) hx hb dL_law_33 (by decide +kernel) (by decide +kernel) (by decide +kernel) (by decide) ?_
        exact lc_drop hx hb hml C hX hj hI hl kx
      | 7, _ =>
        refine lv_tableIn (off := 222) (tgt := 255) hx hb dL_law_33 (by decide +kernel) (by decide +kernel) (by decide +kernel) (by decide) ?_
        exact lc_out hx hb hml C hX hj hI hl kx
      | q + 8, hq => exact absurd hq (by omega)
set_option maxHeartbeats 4000000 in
theorem whole_start {p : Program} {e : Env} {s : State} {m : MethodId} {below : List Frame} {meth : Method} {c : Code} (l : Launch) (hflags : l.flags = flags0) {b L : Nat} {xs : Nat → Int32} (hL : L ≤ 384) (C0 : lw_At p s m meth c b L xs) : W p l e room_1 s m #[Value.ref b] below meth c s.heap [] 0 0 (lw_Z below #[Value.ref b] s) (entryFrame m ([Value.ref b] : List Value).toArray 4) := by
  obtain ⟨hx, hb, hr, hml, hown, hts0, hXv, hbl, hlocks, hgv⟩ := C0
  have hts : ∀ w ∈ lw_all, w.before #[Value.ref b] s = true := fun w h => hts0 w (lw_all_tbl h)
  obtain ⟨G, hKK, hST⟩ := law_G hts0 hgv
  have C : CX G (fun q : Nat => s.heap.size ≤ q) s #[Value.ref b] m "SmDigestDeskLaw" := ⟨fun _ h => h, hKK, hST, hown, hts⟩
  have hX : LX (fun q : Nat => s.heap.size ≤ q) s b L xs := ⟨hXv, hbl, Nat.not_le.mpr hbl, hL⟩
  have h : HS G (fun q : Nat => s.heap.size ≤ q) s s.heap [] [] := ⟨fun k q h => by simp at h, ⟨fun i j p q h => by simp at h, fun k q h => by simp at h⟩, va_S.rf⟩
  have hl := lv_entry ([.ref b]) (n := 4) (Nat.le_of_ble_eq_true rfl)
  rw [lg_entry_eq]
  generalize (lg_sl ([.ref b]) ++ List.replicate (4 - (lg_sl ([.ref b])).length) Slot.unset).toArray = ls at hl ⊢
  have hl : lv_has ls 4 [(0, .ref b)] := hl
  refine g_new hx hb C h (ci := 0) (fs := [.null, .null, .int (0), .null, .int (0)]) in_X0 tyX0 tyX0_ok rfl q23 q24 q15 (fun j hj => by rcases j with _ | _ | _ | _ | _ | j <;> first | rfl | exact absurd hj (by omega)) (Nat.le_of_ble_eq_true rfl) (Nat.le_of_ble_eq_true rfl) dL_law_0 (fun x H h => ?_)
  have h : HS G (fun q : Nat => s.heap.size ≤ q) s _ _ [oX x [.null, .null, .int (0), .null, .int (0)]] := h
  refine lv_dup hx hb dL_law_3 rfl ?_
  refine kIv (wr := []) (rest := [.ref x]) (na := 0) hx hb hml C h (c_X0_init l G x _ (fun _ => 0)) (lw_meth q27) q15 q25 q26 rfl (by decide +kernel) rfl ⟨Nat.le_of_ble_eq_true rfl, Nat.le_of_ble_eq_true rfl⟩ [0] (by decide) rfl [] (by decide) rfl (by decide) hl.1 rfl (Nat.le_of_ble_eq_true rfl) ⟨Nat.le_of_ble_eq_true rfl, Nat.le_of_ble_eq_true rfl⟩ dL_law_4 (fun u H locs hp1 h => ?_)
  obtain ⟨⟨v, iw, wk, xf, xo, xbo⟩, d, xb, va, ia, wa, ou, tx⟩ := u
  have h : HS G (fun q : Nat => s.heap.size ≤ q) s _ _ [oX x [.ref d, .ref ou, .int (0), .ref tx, .int (0)], oD d [.ref (G.2.2.2), .ref xb, .int (xbo), .long (0), .ref va, .ref ia, .int (xo), .ref wa], aI G va 8 (v), aI G ia 16 (iw), aI G wa 68 (wk), aB G xb 4 (xf), aB G ou 64 (fun _ => 0), aB G tx 1024 (fun _ => 0)] := h
  refine lv_astore_n (lv' := [(1, .ref x), (0, .ref b)]) hx hb dL_law_7 rfl hl (by decide) rfl (fun ls hl => ?_)
  refine g_new hx hb C h (ci := 2) (fs := [.null, .null, .int (0), .null, .int (0), .null, .null, .null]) in_X3 tyX3 tyX3_ok rfl q248 q249 q20 (fun j hj => by rcases j with _ | _ | _ | _ | _ | _ | _ | _ | j <;> first | rfl | exact absurd hj (by omega)) (Nat.le_of_ble_eq_true rfl) (Nat.le_of_ble_eq_true rfl) dL_law_8 (fun mo H h => ?_)
  have h : HS G (fun q : Nat => s.heap.size ≤ q) s _ _ [oX x [.ref d, .ref ou, .int (0), .ref tx, .int (0)], oD d [.ref (G.2.2.2), .ref xb, .int (xbo), .long (0), .ref va, .ref ia, .int (xo), .ref wa], aI G va 8 (v), aI G ia 16 (iw), aI G wa 68 (wk), aB G xb 4 (xf), aB G ou 64 (fun _ => 0), aB G tx 1024 (fun _ => 0), oM mo [.null, .null, .int (0), .null, .int (0), .null, .null, .null]] := h
  refine lv_dup hx hb dL_law_11 rfl ?_
  refine kIv (wr := [oX x [.ref d, .ref ou, .int (0), .ref tx, .int (0)], oD d [.ref (G.2.2.2), .ref xb, .int (xbo), .long (0), .ref va, .ref ia, .int (xo), .ref wa], aI G va 8 (v), aI G ia 16 (iw), aI G wa 68 (wk), aB G xb 4 (xf), aB G ou 64 (fun _ => 0), aB G tx 1024 (fun _ => 0)]) (rest := [.ref mo]) (na := 0) hx hb hml C h (c_X3_init l G mo _) (lw_meth q252) q20 q250 q251 rfl (by decide +kernel) rfl ⟨Nat.le_of_ble_eq_true rfl, Nat.le_of_ble_eq_true rfl⟩ [8] (by decide) rfl [0, 1, 2, 3, 4, 5, 6, 7] (by decide) rfl (by decide) hl.1 rfl (Nat.le_of_ble_eq_true rfl) ⟨Nat.le_of_ble_eq_true rfl, Nat.le_of_ble_eq_true rfl⟩ dL_law_12 (fun u H locs _ h => ?_)
  obtain ⟨mou, mtx, mms, mwa, mva, mra⟩ := u
  have h : HS G (fun q : Nat => s.heap.size ≤ q) s _ _ [oX x [.ref d, .ref ou, .int (0), .ref tx, .int (0)], oD d [.ref (G.2.2.2), .ref xb, .int (xbo), .long (0), .ref va, .ref ia, .int (xo), .ref wa], aI G va 8 (v), aI G ia 16 (iw), aI G wa 68 (wk), aB G xb 4 (xf), aB G ou 64 (fun _ => 0), aB G tx 1024 (fun _ => 0), oM mo [.ref mou, .ref mtx, .int (0), .ref mms, .int (0), .ref mwa, .ref mva, .ref mra], aB G mou 64 (fun _ => 0), aB G mtx 1024 (fun _ => 0), aB G mms 16384 (fun _ => 0), aI G mwa 68 (fun _ => 0), aI G mva 8 (fun _ => 0), aI G mra 8 (fun _ => 0)] := h
  refine lv_astore_n (lv' := [(2, .ref mo), (1, .ref x), (0, .ref b)]) hx hb dL_law_15 rfl hl (by decide) rfl (fun ls hl => ?_)
  refine lv_iconst (v := nI (0)) hx hb dL_law_16 (by decide) ?_
  refine lv_istore_n (lv' := [(3, .int (nI (0))), (2, .ref mo), (1, .ref x), (0, .ref b)]) hx hb dL_law_17 rfl hl (by decide) rfl (fun ls hl => ?_)
  have hI : LI G (fun q : Nat => s.heap.size ≤ q) s x mo _ _ := ⟨d, ou, tx, G.2.2.2, xb, va, ia, wa, mou, mtx, mms, mwa, mva, mra, 0, 0, xbo, xo, v, iw, wk, xf, (fun _ => 0), (fun _ => 0), (fun _ => 0), (fun _ => 0), (fun _ => 0), (fun _ => 0), ⟨Nat.zero_le _, Nat.zero_le _, Bt.zero, Bt.zero, hp1⟩, h⟩
  refine W.widen (k := 15 + 5 * 0) (n := 18761 + 104 * 0) (Nat.le_of_ble_eq_true rfl) (Nat.le_of_ble_eq_true rfl) ?_
  exact law_loop hx hb hr hlocks hml C hX (fun _ q => q) 65 0 _ _ ls (Nat.zero_le _) (by omega) hI (lv_sub hl [3, 2, 1, 0] rfl)
end
section
/-! the claim out of whole_start -/
set_option maxHeartbeats 4000000 in
theorem lw_walk (l : Launch) (hflags : l.flags = flags0) (b : Addr) (xs : List Int32) : MetFree l x (headSpec (Jvm.Cond.code x code maxLocals ret :: tables_1) room_1) (lw_P b xs) (fun _ _ _ _ _ => True) lw_Q := by
  refine MetFree.of_bodyS (code := code) (maxLocals := maxLocals) (ret := ret) (by decide) ?_ ?_
  · intro args s m h hn
    obtain ⟨meth, c, h1, h2, h3, h4, h5, h6, -, -⟩ := Cond.code_spec hn (atoms_spec (ws := Jvm.Cond.code x code maxLocals ret :: tables_1) h _ List.mem_cons_self)
    exact ⟨meth, c, h1, h2, h3, h4, h5, h6⟩
  · intro p e s m args below meth c s₁ B hml0 hP _
    obtain ⟨rfl, hx, hbd, hgv⟩ := hP
    obtain ⟨scr, harrAt, hlist, hof, hsmall⟩ := hx
    obtain ⟨hcb, hkn, -, -⟩ := State.arrayAt?_spec harrAt
    have hown : s.vm.findClass R_law = some m.cls := findClass_of_methodNamed B.named
    have hts0 : ∀ c ∈ (Jvm.Cond.code x code maxLocals ret :: tables_1), c.before #[Value.ref b] s = true := atoms_spec (ws := Jvm.Cond.code x code maxLocals ret :: tables_1) B.pre
    have hts : ∀ w ∈ lw_tbl, w.before #[Value.ref b] s = true := k2_hts_sels lw_privs (fun w hw => hts0 w (List.mem_cons_of_mem _ hw)) lw_privs_ok
    have hml : c.maxLocals = 4 := B.maxLocals_eq (hts0 _ List.mem_cons_self)
    have X₀ : Stand p l e room_1 s m #[Value.ref b] below meth c s₁ [] 0 0 := Stand.of_body B
    have hh0 : s₁.heap = s.heap := by rw [B.state]; rfl
    have hsz : scr.slots.size = xs.length := by rw [← Array.length_toList, hlist, List.length_map]
    have hval : ∀ j : Nat, j < xs.length → scr.slots[j]? = some (.int (xs.getD j 0)) := fun j hj => by
      rw [← Array.getElem?_toList, hlist]
      simp [hj]
    have hbl : b < s.heap.size := (Array.getElem?_eq_some_iff.mp hcb).1
    have hX : va_X b xs.length (fun j => xs.getD j 0) s s.heap := ⟨scr, hcb, hof, hkn, hsz, hval⟩
    have K : W p l e room_1 s m #[Value.ref b] below meth c s₁.heap [] 0 0 (lw_Z below #[Value.ref b] s) (entryFrame m ([Value.ref b] : List Value).toArray 4) := by
      rw [hh0]
      exact whole_start l hflags hbd ⟨B.exec, B.bytes, B.returns, hml, hown, hts, hX, hbl, B.notSynchronized, hgv⟩
    obtain ⟨t, a1, o, b1, b2, b3⟩ := K s₁ rfl X₀
    exact ⟨t, o, a1, b1, b2, b3⟩
theorem lw_pre_spec {args : Array Value} {s : State} (h : (Jvm.Cond.and given_1 narrow_1).before args s = true) (hr : rest_1_c.before args s = true) : ∃ (b : Addr) (xs : List Int32), lw_P b xs args s := by
  have hs := flat_of_before _ h
  have hq := flat_of_before _ hr
  have hc : (Cond.count 1).before args s = true := hs _ (by decide +kernel)
  have harr : (Cond.arrayOf (.arg 0) .int).before args s = true := hs _ (by decide +kernel)
  have hle : (Cond.le (.length (.arg 0)) (.int 384)).before args s = true := hs _ (by decide +kernel)
  have hlen : (Cond.isInt (.length (.arg 0))).before args s = true := hq _ (by decide +kernel)
  have hall : (Cond.all (.arg 0) (.isInt (.elem (.arg 0) (.index 0)))).before args s = true := hq _ (by decide +kernel)
  obtain ⟨b, xs, hb, hx⟩ := State.ints_of_pre rfl harr hlen hall
  have hsm : xs.length < 2 ^ 31 := hx.choose_spec.2.2.2
  have hev : (Term.length (.arg 0)).eval args s none [] s = some (.int xs.length.toInt32) := hx.length_eval hb
  have hv := Cond.le_ints hev (show (Term.int 384).eval args s none [] s = some (.int 384) from rfl)
  have hd : xs.length.toInt32 ≤ 384 := by
    simpa [Cond.before, Cond.holds, hv] using hle
  have hN : xs.length ≤ 384 := (Int32.ofNat_le_ofNat hsm (by decide)).mp (show Int32.ofNat xs.length ≤ Int32.ofNat 384 from hd)
  exact ⟨b, xs, Cond.one_arg hc (show args[0]? = some (.ref b) from hb), hx, hN, h⟩
theorem lw_comes (l : Launch) (hflags : l.flags = flags0) : Comes l x (Jvm.Cond.code x code maxLocals ret :: tables_1) room_1 (fun tb e args s => Calls_1 tb e args s ∧ rest_1 tb e args s ∧ Pre_1 tb e args s)
    (fun _ _ args s o t => lw_Q args s o t) := by
  intro p e ha hc hk s m args below hf hfit hheap happ hpre
  obtain ⟨b, xs, hP⟩ := lw_pre_spec hpre.2.2 hpre.2.1
  obtain ⟨k, o, h1, h2, h3, hQ⟩ := lw_walk l hflags b xs p e ha hc hk s m args below hf ((Spec.applies_iff_loose hf).mp happ).1 hP trivial
  exact ⟨k, o, h1, h2, h3, hQ⟩
theorem lw_frame {s t : State} {o : Outcome} {args : Array Value} (h : Framed s o t [] 600000 7302250) :
    Framed s o t (fieldLocs frame_1_writes args s ++ arrayLocs frame_1_arrays args s ++ staticLocs frame_1_statics s) 600000 7302250 := h
theorem lw_limb (L : Cond) (hL : ∀ (args : Array Value) (s t : State), L.after args s (.returned (some (.int 1))) t = true) :
    ArmFor flags0 classFile x code maxLocals ret World_1 tables_1 room_1 Calls_1 rest_1 Pre_1
      (fun tb e a s o t => postC L tb e a s o t ∧ Framed s o t (fieldLocs frame_1_writes a s ++ arrayLocs frame_1_arrays a s ++ staticLocs frame_1_statics s) 600000 7302250) := by
  intro l hflags _ _ p e ha hc hk s m args below hf hfit hheap happ hpre
  obtain ⟨k, o, h1, h2, h3, rfl, hF⟩ := lw_comes l hflags p e ha hc hk s m args below hf hfit hheap happ hpre
  exact ⟨k, _, h1, h2, h3, hL args s _, lw_frame hF⟩
theorem i_vc : Claimed_1_1 ∧ Claimed_1_2 := ⟨lw_limb limb_1_1 (fun args s t => by simp [limb_1_1, Cond.after, Cond.holds, Cond.value]), lw_limb limb_1_2 (fun args s t => Cond.after_iff.mpr (by
  first | (rw [show limb_1_2 = Cond.eq .result (.int 1) from rfl, Cond.eq_ints (x := 1) (y := 1) rfl rfl]; simp; done) | (simp [limb_1_2, Cond.value, Term.eval]; done)))⟩
end
