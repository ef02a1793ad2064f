section
-- ===== PART A: goes FIRST, ahead of the names: the tables' words, and 'selects' of the private methods out of them =====
/-- a private method of a class that the tables say can be made, by its rows of tables_1 -/
def lw_okq (q : MethodName × Nat) : Prop := (q.1.cls ≠ "java/lang/invoke/MethodHandle" ∧ q.1.cls ≠ "java/lang/invoke/VarHandle") ∧ Cond.instantiable q.1.cls q.2 ∈ tables_1 ∧ Cond.privateMethod q.1 ∈ tables_1 ∧ Cond.instanceMethod q.1 ∈ tables_1
set_option maxRecDepth 100000
theorem lw_t1 {w : Cond} (h : w ∈ tables_1_1) : w ∈ tables_1 := List.mem_append_left _ h
theorem lw_t2 {w : Cond} (h : w ∈ tables_1_2) : w ∈ tables_1 := List.mem_append_right _ h
theorem lw_p0 : lw_okq (⟨"BlowfishDesk", "run", "(ZI)V"⟩, 3) := ⟨⟨by decide +kernel, by decide +kernel⟩, lw_t1 (List.mem_of_getElem? (i := 15) rfl), lw_t1 (List.mem_of_getElem? (i := 49) rfl), lw_t1 (List.mem_of_getElem? (i := 50) rfl)⟩
theorem lw_p1 : lw_okq (⟨"BlowfishEngine", "setKey", "([B)V"⟩, 7) := ⟨⟨by decide +kernel, by decide +kernel⟩, lw_t1 (List.mem_of_getElem? (i := 56) rfl), lw_t1 (List.mem_of_getElem? (i := 119) rfl), lw_t1 (List.mem_of_getElem? (i := 120) rfl)⟩
theorem lw_p2 : lw_okq (⟨"java/lang/Throwable", "fillInStackTrace", "(I)Ljava/lang/Throwable;"⟩, 6) := ⟨⟨by decide +kernel, by decide +kernel⟩, lw_t1 (List.mem_of_getElem? (i := 162) rfl), lw_t1 (List.mem_of_getElem? (i := 160) rfl), lw_t1 (List.mem_of_getElem? (i := 161) rfl)⟩
theorem lw_p3 : lw_okq (⟨"BlowfishEngine", "processTable", "(II[I)V"⟩, 7) := ⟨⟨by decide +kernel, by decide +kernel⟩, lw_t1 (List.mem_of_getElem? (i := 56) rfl), lw_t1 (List.mem_of_getElem? (i := 202) rfl), lw_t1 (List.mem_of_getElem? (i := 203) rfl)⟩
theorem lw_p4 : lw_okq (⟨"BlowfishEngine", "F", "(I)I"⟩, 7) := ⟨⟨by decide +kernel, by decide +kernel⟩, lw_t1 (List.mem_of_getElem? (i := 56) rfl), lw_t1 (List.mem_of_getElem? (i := 206) rfl), lw_t1 (List.mem_of_getElem? (i := 207) rfl)⟩
theorem lw_p5 : lw_okq (⟨"BlowfishEngine", "encryptBlock", "([BI[BI)V"⟩, 7) := ⟨⟨by decide +kernel, by decide +kernel⟩, lw_t1 (List.mem_of_getElem? (i := 56) rfl), lw_t2 (List.mem_of_getElem? (i := 33) rfl), lw_t2 (List.mem_of_getElem? (i := 34) rfl)⟩
theorem lw_p6 : lw_okq (⟨"BlowfishEngine", "BytesTo32bits", "([BI)I"⟩, 7) := ⟨⟨by decide +kernel, by decide +kernel⟩, lw_t1 (List.mem_of_getElem? (i := 56) rfl), lw_t2 (List.mem_of_getElem? (i := 37) rfl), lw_t2 (List.mem_of_getElem? (i := 38) rfl)⟩
theorem lw_p7 : lw_okq (⟨"BlowfishEngine", "Bits32ToBytes", "(I[BI)V"⟩, 7) := ⟨⟨by decide +kernel, by decide +kernel⟩, lw_t1 (List.mem_of_getElem? (i := 56) rfl), lw_t2 (List.mem_of_getElem? (i := 41) rfl), lw_t2 (List.mem_of_getElem? (i := 42) rfl)⟩
theorem lw_p8 : lw_okq (⟨"BlowfishEngine", "decryptBlock", "([BI[BI)V"⟩, 7) := ⟨⟨by decide +kernel, by decide +kernel⟩, lw_t1 (List.mem_of_getElem? (i := 56) rfl), lw_t2 (List.mem_of_getElem? (i := 45) rfl), lw_t2 (List.mem_of_getElem? (i := 46) rfl)⟩
theorem lw_p9 : lw_okq (⟨"BlowfishDeskModel", "runs", "(IZ)V"⟩, 4) := ⟨⟨by decide +kernel, by decide +kernel⟩, lw_t2 (List.mem_of_getElem? (i := 61) rfl), lw_t2 (List.mem_of_getElem? (i := 95) rfl), lw_t2 (List.mem_of_getElem? (i := 96) rfl)⟩
theorem lw_p10 : lw_okq (⟨"BlowfishDeskModel", "sets", "(I)V"⟩, 4) := ⟨⟨by decide +kernel, by decide +kernel⟩, lw_t2 (List.mem_of_getElem? (i := 61) rfl), lw_t2 (List.mem_of_getElem? (i := 99) rfl), lw_t2 (List.mem_of_getElem? (i := 100) rfl)⟩
theorem lw_p11 : lw_okq (⟨"BlowfishDeskModel", "runs", "(IIZ)J"⟩, 4) := ⟨⟨by decide +kernel, by decide +kernel⟩, lw_t2 (List.mem_of_getElem? (i := 61) rfl), lw_t2 (List.mem_of_getElem? (i := 105) rfl), lw_t2 (List.mem_of_getElem? (i := 106) rfl)⟩
theorem lw_p12 : lw_okq (⟨"BlowfishDeskModel", "mixed", "(I)I"⟩, 4) := ⟨⟨by decide +kernel, by decide +kernel⟩, lw_t2 (List.mem_of_getElem? (i := 61) rfl), lw_t2 (List.mem_of_getElem? (i := 109) rfl), lw_t2 (List.mem_of_getElem? (i := 110) rfl)⟩
def lw_privs_1 : List (MethodName × Nat) := [(⟨"BlowfishDesk", "run", "(ZI)V"⟩, 3), (⟨"BlowfishEngine", "setKey", "([B)V"⟩, 7), (⟨"java/lang/Throwable", "fillInStackTrace", "(I)Ljava/lang/Throwable;"⟩, 6), (⟨"BlowfishEngine", "processTable", "(II[I)V"⟩, 7), (⟨"BlowfishEngine", "F", "(I)I"⟩, 7), (⟨"BlowfishEngine", "encryptBlock", "([BI[BI)V"⟩, 7), (⟨"BlowfishEngine", "BytesTo32bits", "([BI)I"⟩, 7), (⟨"BlowfishEngine", "Bits32ToBytes", "(I[BI)V"⟩, 7), (⟨"BlowfishEngine", "decryptBlock", "([BI[BI)V"⟩, 7), (⟨"BlowfishDeskModel", "runs", "(IZ)V"⟩, 4), (⟨"BlowfishDeskModel", "sets", "(I)V"⟩, 4), (⟨"BlowfishDeskModel", "runs", "(IIZ)J"⟩, 4), (⟨"BlowfishDeskModel", "mixed", "(I)I"⟩, 4)]
theorem lw_r1 : ∀ q ∈ lw_privs_1, lw_okq q := List.forall_mem_cons.mpr ⟨lw_p0, List.forall_mem_cons.mpr ⟨lw_p1, List.forall_mem_cons.mpr ⟨lw_p2, List.forall_mem_cons.mpr ⟨lw_p3, List.forall_mem_cons.mpr ⟨lw_p4, List.forall_mem_cons.mpr ⟨lw_p5, List.forall_mem_cons.mpr ⟨lw_p6, List.forall_mem_cons.mpr ⟨lw_p7, List.forall_mem_cons.mpr ⟨lw_p8, List.forall_mem_cons.mpr ⟨lw_p9, List.forall_mem_cons.mpr ⟨lw_p10, List.forall_mem_cons.mpr ⟨lw_p11, List.forall_mem_cons.mpr ⟨lw_p12, fun _ h => absurd h List.not_mem_nil⟩⟩⟩⟩⟩⟩⟩⟩⟩⟩⟩⟩⟩
def lw_privs : List (MethodName × Nat) := lw_privs_1
def lw_tbl : List Cond := k2_sels lw_privs ++ tables_1
theorem lw_privs_ok : ∀ q ∈ lw_privs, lw_okq q := lw_r1
-- ===== ONE list of words for every method: the tables' words that hold all through a run =====
def lw_all : List Cond := lw_tbl.filter goodWord
/-- a word of the tables by its place: claim/WORDS.tsv -/
theorem lw_w {w : Cond} (i : Nat) (h : lw_tbl[i]? = some w) (g : goodWord w = true) : w ∈ lw_all := List.mem_filter.mpr ⟨List.mem_of_getElem? h, g⟩
theorem lw_all_tbl {w : Cond} (h : w ∈ lw_all) : w ∈ lw_tbl := (List.mem_filter.mp h).1
theorem lw_self : GoodIn lw_all lw_all := fun w h => ⟨h, good_of_word (List.mem_filter.mp h).2⟩
/-- a class's field words, by their places -/
theorem lw_in (ws : List Cond) (ps : List Nat) (hp : ws = ps.filterMap (fun i => lw_tbl[i]?)) (hg : ws.all goodWord = true) : ∀ w ∈ ws, w ∈ lw_all := by
  intro w h
  have h1 := List.all_eq_true.mp hg w h
  rw [hp] at h
  obtain ⟨i, -, hi⟩ := List.mem_filterMap.mp h
  exact lw_w i hi h1
/-- the words of a contract for the method y with code b, L locals, answer r -/
abbrev ws_ (y : MethodName) (b : ByteArray) (L : Nat) (r : Option FieldType) : List Cond := Cond.code y b L r :: lw_all
theorem lw_meth {y : MethodName} {b : ByteArray} {L : Nat} {r : Option FieldType} (h : Cond.code y b L r ∈ lw_all) : GoodIn lw_all (ws_ y b L r) := by
  intro w hw
  rcases List.mem_cons.mp hw with e | e
  · rw [e]
    exact lw_self _ h
  · exact lw_self _ e
theorem lw_app {a c : List Cond} (ha : ∀ w ∈ a, w ∈ lw_all) (hc : GoodIn lw_all c) : GoodIn lw_all (a ++ c) := by
  intro w hw
  rcases List.mem_append.mp hw with e | e
  · exact lw_self w (ha w e)
  · exact hc w e
/-- what a call through an object asks: cwV n hts (lw_V ..) -/
theorem lw_V {own : String} {idx : Nat} {C : String} {y : MethodName} {b : ByteArray} {L : Nat} {r : Option FieldType} (h1 : Cond.methodLink own idx y ∈ lw_all) (h2 : Cond.instanceMethod y ∈ lw_all) (h3 : Cond.selects C y y ∈ lw_all) (h4 : Cond.initialized C ∈ lw_all) (h5 : Cond.code y b L r ∈ lw_all) : GoodIn lw_all (wsV own idx C y (ws_ y b L r)) := by
  refine lw_app ?_ (lw_meth h5)
  intro w hw
  simp only [List.mem_cons, List.not_mem_nil, or_false] at hw
  rcases hw with e | e | e | e
  · rw [e]; exact h1
  · rw [e]; exact h2
  · rw [e]; exact h3
  · rw [e]; exact h4
/-- what a static call asks: va_cwS n hts (lw_S ..) -/
theorem lw_S {own : String} {idx : Nat} {y : MethodName} {b : ByteArray} {L : Nat} {r : Option FieldType} (h1 : Cond.methodLink own idx y ∈ lw_all) (h2 : Cond.static y ∈ lw_all) (h3 : Cond.initialized y.cls ∈ lw_all) (h4 : Cond.code y b L r ∈ lw_all) : GoodIn lw_all (va_wsS own idx y (ws_ y b L r)) := by
  refine lw_app ?_ (lw_meth h4)
  intro w hw
  simp only [List.mem_cons, List.not_mem_nil, or_false] at hw
  rcases hw with e | e | e
  · rw [e]; exact h1
  · rw [e]; exact h2
  · rw [e]; exact h3
/-- the words of a contract for a method WITH HANDLERS (hh: its table) -/
abbrev wsW_ (y : MethodName) (b : ByteArray) (L : Nat) (r : Option FieldType) (hh : List (Nat × Nat × Nat × Nat)) : List Cond := Cond.codeWith y b L r hh :: lw_all
theorem lw_methW {y : MethodName} {b : ByteArray} {L : Nat} {r : Option FieldType} {hh : List (Nat × Nat × Nat × Nat)} (h : Cond.codeWith y b L r hh ∈ lw_all) : GoodIn lw_all (wsW_ y b L r hh) := by
  intro w hw
  rcases List.mem_cons.mp hw with e | e
  · rw [e]
    exact lw_self _ h
  · exact lw_self _ e
/-- any list of words by their places (lw_in), good -/
theorem lw_good {ws : List Cond} (h : ∀ w ∈ ws, w ∈ lw_all) : GoodIn lw_all ws := fun w hw => lw_self w (h w hw)
/-- what a call of a method with handlers asks: vx_cwVW n hts (lw_VW ..), vx_cwSW n hts (lw_SW ..) -/
theorem lw_VW {own : String} {idx : Nat} {C : String} {y : MethodName} {b : ByteArray} {L : Nat} {r : Option FieldType} {hh : List (Nat × Nat × Nat × Nat)} (h1 : Cond.methodLink own idx y ∈ lw_all) (h2 : Cond.instanceMethod y ∈ lw_all) (h3 : Cond.selects C y y ∈ lw_all) (h4 : Cond.initialized C ∈ lw_all) (h5 : Cond.codeWith y b L r hh ∈ lw_all) : GoodIn lw_all (wsV own idx C y (wsW_ y b L r hh)) := by
  refine lw_app ?_ (lw_methW h5)
  intro w hw
  simp only [List.mem_cons, List.not_mem_nil, or_false] at hw
  rcases hw with e | e | e | e
  · rw [e]; exact h1
  · rw [e]; exact h2
  · rw [e]; exact h3
  · rw [e]; exact h4
theorem lw_SW {own : String} {idx : Nat} {y : MethodName} {b : ByteArray} {L : Nat} {r : Option FieldType} {hh : List (Nat × Nat × Nat × Nat)} (h1 : Cond.methodLink own idx y ∈ lw_all) (h2 : Cond.static y ∈ lw_all) (h3 : Cond.initialized y.cls ∈ lw_all) (h4 : Cond.codeWith y b L r hh ∈ lw_all) : GoodIn lw_all (va_wsS own idx y (wsW_ y b L r hh)) := by
  refine lw_app ?_ (lw_methW h4)
  intro w hw
  simp only [List.mem_cons, List.not_mem_nil, or_false] at hw
  rcases hw with e | e | e
  · rw [e]; exact h1
  · rw [e]; exact h2
  · rw [e]; exact h3
/-- a word by its place in its run of the tables -/
theorem lw_at {r : List Cond} (hr : ∀ w ∈ r, w ∈ lw_tbl) {w : Cond} (i : Nat) (h : r[i]? = some w) : w ∈ lw_tbl := hr w (List.mem_of_getElem? h)
theorem lw_g {w : Cond} (h : w ∈ lw_tbl) (g : goodWord w = true) : w ∈ lw_all := List.mem_filter.mpr ⟨h, g⟩
theorem lw_ms : ∀ w ∈ k2_sels lw_privs, w ∈ lw_tbl := fun w h => show w ∈ k2_sels lw_privs ++ tables_1 from List.mem_append_left _ h
theorem lw_m1 : ∀ w ∈ tables_1_1, w ∈ lw_tbl := fun w h => show w ∈ k2_sels lw_privs ++ tables_1 from List.mem_append_right (k2_sels lw_privs) (show w ∈ tables_1 from List.mem_append_left _ h)
theorem lw_m2 : ∀ w ∈ tables_1_2, w ∈ lw_tbl := fun w h => show w ∈ k2_sels lw_privs ++ tables_1 from List.mem_append_right (k2_sels lw_privs) (show w ∈ tables_1 from List.mem_append_right _ h)
theorem qs0 : (Cond.selects "BlowfishDesk" ⟨"BlowfishDesk", "run", "(ZI)V"⟩ ⟨"BlowfishDesk", "run", "(ZI)V"⟩) ∈ lw_all := lw_g (lw_at lw_ms 0 rfl) rfl
theorem qs1 : (Cond.selects "BlowfishEngine" ⟨"BlowfishEngine", "setKey", "([B)V"⟩ ⟨"BlowfishEngine", "setKey", "([B)V"⟩) ∈ lw_all := lw_g (lw_at lw_ms 1 rfl) rfl
theorem qs2 : (Cond.selects "java/lang/Throwable" ⟨"java/lang/Throwable", "fillInStackTrace", "(I)Ljava/lang/Throwable;"⟩ ⟨"java/lang/Throwable", "fillInStackTrace", "(I)Ljava/lang/Throwable;"⟩) ∈ lw_all := lw_g (lw_at lw_ms 2 rfl) rfl
theorem qs3 : (Cond.selects "BlowfishEngine" ⟨"BlowfishEngine", "processTable", "(II[I)V"⟩ ⟨"BlowfishEngine", "processTable", "(II[I)V"⟩) ∈ lw_all := lw_g (lw_at lw_ms 3 rfl) rfl
theorem qs4 : (Cond.selects "BlowfishEngine" ⟨"BlowfishEngine", "F", "(I)I"⟩ ⟨"BlowfishEngine", "F", "(I)I"⟩) ∈ lw_all := lw_g (lw_at lw_ms 4 rfl) rfl
theorem qs5 : (Cond.selects "BlowfishEngine" ⟨"BlowfishEngine", "encryptBlock", "([BI[BI)V"⟩ ⟨"BlowfishEngine", "encryptBlock", "([BI[BI)V"⟩) ∈ lw_all := lw_g (lw_at lw_ms 5 rfl) rfl
theorem qs6 : (Cond.selects "BlowfishEngine" ⟨"BlowfishEngine", "BytesTo32bits", "([BI)I"⟩ ⟨"BlowfishEngine", "BytesTo32bits", "([BI)I"⟩) ∈ lw_all := lw_g (lw_at lw_ms 6 rfl) rfl
theorem qs7 : (Cond.selects "BlowfishEngine" ⟨"BlowfishEngine", "Bits32ToBytes", "(I[BI)V"⟩ ⟨"BlowfishEngine", "Bits32ToBytes", "(I[BI)V"⟩) ∈ lw_all := lw_g (lw_at lw_ms 7 rfl) rfl
theorem qs8 : (Cond.selects "BlowfishEngine" ⟨"BlowfishEngine", "decryptBlock", "([BI[BI)V"⟩ ⟨"BlowfishEngine", "decryptBlock", "([BI[BI)V"⟩) ∈ lw_all := lw_g (lw_at lw_ms 8 rfl) rfl
theorem qs9 : (Cond.selects "BlowfishDeskModel" ⟨"BlowfishDeskModel", "runs", "(IZ)V"⟩ ⟨"BlowfishDeskModel", "runs", "(IZ)V"⟩) ∈ lw_all := lw_g (lw_at lw_ms 9 rfl) rfl
theorem qs10 : (Cond.selects "BlowfishDeskModel" ⟨"BlowfishDeskModel", "sets", "(I)V"⟩ ⟨"BlowfishDeskModel", "sets", "(I)V"⟩) ∈ lw_all := lw_g (lw_at lw_ms 10 rfl) rfl
theorem qs11 : (Cond.selects "BlowfishDeskModel" ⟨"BlowfishDeskModel", "runs", "(IIZ)J"⟩ ⟨"BlowfishDeskModel", "runs", "(IIZ)J"⟩) ∈ lw_all := lw_g (lw_at lw_ms 11 rfl) rfl
theorem qs12 : (Cond.selects "BlowfishDeskModel" ⟨"BlowfishDeskModel", "mixed", "(I)I"⟩ ⟨"BlowfishDeskModel", "mixed", "(I)I"⟩) ∈ lw_all := lw_g (lw_at lw_ms 12 rfl) rfl
end
section
/-! DECODE ROWS BY BYTES: one lemma an opcode; a method's code is cut into short pieces once, and a row reads its own piece alone. -/
set_option maxRecDepth 100000
/-- the code has just these bytes from pc on -/
def DkAt (code : ByteArray) (pc : Nat) (bs : List UInt8) : Prop := ∀ (j : Nat) (b : UInt8), bs[j]? = some b → code.data.toList[pc + j]? = some b
/-- the piece W has the bytes bs from its place j on -/
def dkIn (W : List UInt8) (j : Nat) (bs : List UInt8) : Bool := decide ((W.drop j).take bs.length = bs)
theorem dk_seg {l W T : List UInt8} {o o2 : Nat} (h : l.drop o = W ++ T) (n : Nat) (hn : W.length = n) (ho : o + n = o2) : l.drop o2 = T := by
  subst ho
  rw [← List.drop_drop, h, List.drop_left' hn]
theorem dk_at {code : ByteArray} {W T bs : List UInt8} {o pc : Nat} (h : code.data.toList.drop o = W ++ T) (j : Nat) (hp : o + j = pc) (hw : dkIn W j bs = true) : DkAt code pc bs := by
  subst hp
  intro i b e
  have h1 := of_decide_eq_true hw
  have h2 : i < bs.length := (List.getElem?_eq_some_iff.mp e).1
  have h3 : W[j + i]? = some b := by
    rw [← h1, List.getElem?_take, if_pos h2, List.getElem?_drop] at e
    exact e
  have h4 : j + i < W.length := (List.getElem?_eq_some_iff.mp h3).1
  have h5 : (code.data.toList.drop o)[j + i]? = some b := by
    rw [h, List.getElem?_append_left h4]
    exact h3
  rw [List.getElem?_drop, ← Nat.add_assoc] at h5
  exact h5
theorem dk_u1 {A : ByteArray} {p : Nat} {b : UInt8} (h : A.data.toList[p]? = some b) : (Reader.u1 : Reader DecodeError Nat) A p = .ok (b.toNat, p + 1) := by
  obtain ⟨h1, h2⟩ := List.getElem?_eq_some_iff.mp h
  have h3 : p < A.size := by simpa using h1
  have h4 : A[p]'h3 = b := h2
  have e : (Reader.u1 : Reader DecodeError Nat) A p = (if h : p < A.size then .ok (A[p].toNat, p + 1) else .error (HasTruncated.truncated p)) := by
    show (do if h : p < A.size then do set (p + 1); Pure.pure A[p].toNat else MonadExcept.throw (HasTruncated.truncated p) : Reader DecodeError Nat) A p = _
    by_cases hi : p < A.size
    · rw [dif_pos hi, dif_pos hi]; rfl
    · rw [dif_neg hi, dif_neg hi]; rfl
  rw [e, dif_pos h3, h4]
theorem dk_bind {α β : Type} {r : Reader DecodeError α} {f : α → Reader DecodeError β} {A : ByteArray} {p s : Nat} {a : α} (h : r A p = .ok (a, s)) : (r >>= f) A p = f a A s := by
  show (do let (a, s) ← r A p; f a A s : Except DecodeError (β × Nat)) = _
  rw [h]
  rfl
theorem dk_map {α β : Type} {r : Reader DecodeError α} {g : α → β} {A : ByteArray} {p s : Nat} {a : α} (h : r A p = .ok (a, s)) : (g <$> r) A p = .ok (g a, s) := by
  show (do let (a, s) ← r A p; .ok (g a, s) : Except DecodeError (β × Nat)) = _
  rw [h]
  rfl
theorem dk_u2 {A : ByteArray} {p : Nat} {a b : UInt8} (h : A.data.toList[p]? = some a) (h2 : A.data.toList[p + 1]? = some b) : (Reader.u2 : Reader DecodeError Nat) A p = .ok (a.toNat * 256 + b.toNat, p + 2) := by
  show (Reader.u1 >>= fun hi => Reader.u1 >>= fun lo => Pure.pure (hi * 256 + lo) : Reader DecodeError Nat) A p = _
  rw [dk_bind (dk_u1 h), dk_bind (dk_u1 h2)]
  rfl
theorem dk_of {code : ByteArray} {pc n : Nat} {i : Instr} (h : Decoder.instr pc code pc = .ok (i, pc + n)) : decode code pc = .ok (i, n) := by
  have e : decode code pc = (match Decoder.instr pc code pc with | .error x => .error x | .ok (j, s) => .ok (j, s - pc)) := by
    show (do let (j, s) ← Decoder.instr pc code pc; Pure.pure (j, s - pc) : Except DecodeError (Instr × Nat)) = _
    cases Decoder.instr pc code pc <;> rfl
  rw [e, h]
  show Except.ok (i, pc + n - pc) = _
  rw [Nat.add_sub_cancel_left]
theorem dk_1 {code : ByteArray} {pc : Nat} (h : DkAt code pc [1]) : decode code pc = .ok (.aconst_null, 1) := dk_of ((dk_bind (dk_u1 (h 0 _ rfl))).trans rfl)
theorem dk_3 {code : ByteArray} {pc : Nat} (h : DkAt code pc [3]) : decode code pc = .ok (.iconst 0, 1) := dk_of ((dk_bind (dk_u1 (h 0 _ rfl))).trans rfl)
theorem dk_4 {code : ByteArray} {pc : Nat} (h : DkAt code pc [4]) : decode code pc = .ok (.iconst 1, 1) := dk_of ((dk_bind (dk_u1 (h 0 _ rfl))).trans rfl)
theorem dk_5 {code : ByteArray} {pc : Nat} (h : DkAt code pc [5]) : decode code pc = .ok (.iconst 2, 1) := dk_of ((dk_bind (dk_u1 (h 0 _ rfl))).trans rfl)
theorem dk_6 {code : ByteArray} {pc : Nat} (h : DkAt code pc [6]) : decode code pc = .ok (.iconst 3, 1) := dk_of ((dk_bind (dk_u1 (h 0 _ rfl))).trans rfl)
theorem dk_7 {code : ByteArray} {pc : Nat} (h : DkAt code pc [7]) : decode code pc = .ok (.iconst 4, 1) := dk_of ((dk_bind (dk_u1 (h 0 _ rfl))).trans rfl)
theorem dk_8 {code : ByteArray} {pc : Nat} (h : DkAt code pc [8]) : decode code pc = .ok (.iconst 5, 1) := dk_of ((dk_bind (dk_u1 (h 0 _ rfl))).trans rfl)
theorem dk_9 {code : ByteArray} {pc : Nat} (h : DkAt code pc [9]) : decode code pc = .ok (.lconst 0, 1) := dk_of ((dk_bind (dk_u1 (h 0 _ rfl))).trans rfl)
theorem dk_16 {code : ByteArray} {pc : Nat} (a : UInt8) (h : DkAt code pc [16, a]) : decode code pc = .ok (.bipush (Reader.signed 8 a.toNat), 2) := dk_of ((dk_bind (dk_u1 (h 0 _ rfl))).trans ((dk_bind (dk_map (dk_u1 (h 1 _ rfl)))).trans rfl))
theorem dk_17 {code : ByteArray} {pc : Nat} (a b : UInt8) (h : DkAt code pc [17, a, b]) : decode code pc = .ok (.sipush (Reader.signed 16 (a.toNat * 256 + b.toNat)), 3) := dk_of ((dk_bind (dk_u1 (h 0 _ rfl))).trans ((dk_bind (dk_map (dk_u2 (h 1 _ rfl) (h 2 _ rfl)))).trans rfl))
theorem dk_18 {code : ByteArray} {pc : Nat} (a : UInt8) (h : DkAt code pc [18, a]) : decode code pc = .ok (.ldc a.toNat, 2) := dk_of ((dk_bind (dk_u1 (h 0 _ rfl))).trans ((dk_bind (dk_u1 (h 1 _ rfl))).trans rfl))
theorem dk_20 {code : ByteArray} {pc : Nat} (a b : UInt8) (h : DkAt code pc [20, a, b]) : decode code pc = .ok (.ldc2_w (a.toNat * 256 + b.toNat), 3) := dk_of ((dk_bind (dk_u1 (h 0 _ rfl))).trans ((dk_bind (dk_u2 (h 1 _ rfl) (h 2 _ rfl))).trans rfl))
theorem dk_21 {code : ByteArray} {pc : Nat} (a : UInt8) (h : DkAt code pc [21, a]) : decode code pc = .ok (.iload a.toNat, 2) := dk_of ((dk_bind (dk_u1 (h 0 _ rfl))).trans ((dk_bind (dk_u1 (h 1 _ rfl))).trans rfl))
theorem dk_22 {code : ByteArray} {pc : Nat} (a : UInt8) (h : DkAt code pc [22, a]) : decode code pc = .ok (.lload a.toNat, 2) := dk_of ((dk_bind (dk_u1 (h 0 _ rfl))).trans ((dk_bind (dk_u1 (h 1 _ rfl))).trans rfl))
theorem dk_25 {code : ByteArray} {pc : Nat} (a : UInt8) (h : DkAt code pc [25, a]) : decode code pc = .ok (.aload a.toNat, 2) := dk_of ((dk_bind (dk_u1 (h 0 _ rfl))).trans ((dk_bind (dk_u1 (h 1 _ rfl))).trans rfl))
theorem dk_26 {code : ByteArray} {pc : Nat} (h : DkAt code pc [26]) : decode code pc = .ok (.iload_n 0, 1) := dk_of ((dk_bind (dk_u1 (h 0 _ rfl))).trans rfl)
theorem dk_27 {code : ByteArray} {pc : Nat} (h : DkAt code pc [27]) : decode code pc = .ok (.iload_n 1, 1) := dk_of ((dk_bind (dk_u1 (h 0 _ rfl))).trans rfl)
theorem dk_28 {code : ByteArray} {pc : Nat} (h : DkAt code pc [28]) : decode code pc = .ok (.iload_n 2, 1) := dk_of ((dk_bind (dk_u1 (h 0 _ rfl))).trans rfl)
theorem dk_29 {code : ByteArray} {pc : Nat} (h : DkAt code pc [29]) : decode code pc = .ok (.iload_n 3, 1) := dk_of ((dk_bind (dk_u1 (h 0 _ rfl))).trans rfl)
theorem dk_33 {code : ByteArray} {pc : Nat} (h : DkAt code pc [33]) : decode code pc = .ok (.lload_n 3, 1) := dk_of ((dk_bind (dk_u1 (h 0 _ rfl))).trans rfl)
theorem dk_42 {code : ByteArray} {pc : Nat} (h : DkAt code pc [42]) : decode code pc = .ok (.aload_n 0, 1) := dk_of ((dk_bind (dk_u1 (h 0 _ rfl))).trans rfl)
theorem dk_43 {code : ByteArray} {pc : Nat} (h : DkAt code pc [43]) : decode code pc = .ok (.aload_n 1, 1) := dk_of ((dk_bind (dk_u1 (h 0 _ rfl))).trans rfl)
theorem dk_44 {code : ByteArray} {pc : Nat} (h : DkAt code pc [44]) : decode code pc = .ok (.aload_n 2, 1) := dk_of ((dk_bind (dk_u1 (h 0 _ rfl))).trans rfl)
theorem dk_45 {code : ByteArray} {pc : Nat} (h : DkAt code pc [45]) : decode code pc = .ok (.aload_n 3, 1) := dk_of ((dk_bind (dk_u1 (h 0 _ rfl))).trans rfl)
theorem dk_46 {code : ByteArray} {pc : Nat} (h : DkAt code pc [46]) : decode code pc = .ok (.iaload, 1) := dk_of ((dk_bind (dk_u1 (h 0 _ rfl))).trans rfl)
theorem dk_51 {code : ByteArray} {pc : Nat} (h : DkAt code pc [51]) : decode code pc = .ok (.baload, 1) := dk_of ((dk_bind (dk_u1 (h 0 _ rfl))).trans rfl)
theorem dk_54 {code : ByteArray} {pc : Nat} (a : UInt8) (h : DkAt code pc [54, a]) : decode code pc = .ok (.istore a.toNat, 2) := dk_of ((dk_bind (dk_u1 (h 0 _ rfl))).trans ((dk_bind (dk_u1 (h 1 _ rfl))).trans rfl))
theorem dk_55 {code : ByteArray} {pc : Nat} (a : UInt8) (h : DkAt code pc [55, a]) : decode code pc = .ok (.lstore a.toNat, 2) := dk_of ((dk_bind (dk_u1 (h 0 _ rfl))).trans ((dk_bind (dk_u1 (h 1 _ rfl))).trans rfl))
theorem dk_58 {code : ByteArray} {pc : Nat} (a : UInt8) (h : DkAt code pc [58, a]) : decode code pc = .ok (.astore a.toNat, 2) := dk_of ((dk_bind (dk_u1 (h 0 _ rfl))).trans ((dk_bind (dk_u1 (h 1 _ rfl))).trans rfl))
theorem dk_60 {code : ByteArray} {pc : Nat} (h : DkAt code pc [60]) : decode code pc = .ok (.istore_n 1, 1) := dk_of ((dk_bind (dk_u1 (h 0 _ rfl))).trans rfl)
theorem dk_61 {code : ByteArray} {pc : Nat} (h : DkAt code pc [61]) : decode code pc = .ok (.istore_n 2, 1) := dk_of ((dk_bind (dk_u1 (h 0 _ rfl))).trans rfl)
theorem dk_62 {code : ByteArray} {pc : Nat} (h : DkAt code pc [62]) : decode code pc = .ok (.istore_n 3, 1) := dk_of ((dk_bind (dk_u1 (h 0 _ rfl))).trans rfl)
theorem dk_66 {code : ByteArray} {pc : Nat} (h : DkAt code pc [66]) : decode code pc = .ok (.lstore_n 3, 1) := dk_of ((dk_bind (dk_u1 (h 0 _ rfl))).trans rfl)
theorem dk_76 {code : ByteArray} {pc : Nat} (h : DkAt code pc [76]) : decode code pc = .ok (.astore_n 1, 1) := dk_of ((dk_bind (dk_u1 (h 0 _ rfl))).trans rfl)
theorem dk_77 {code : ByteArray} {pc : Nat} (h : DkAt code pc [77]) : decode code pc = .ok (.astore_n 2, 1) := dk_of ((dk_bind (dk_u1 (h 0 _ rfl))).trans rfl)
theorem dk_79 {code : ByteArray} {pc : Nat} (h : DkAt code pc [79]) : decode code pc = .ok (.iastore, 1) := dk_of ((dk_bind (dk_u1 (h 0 _ rfl))).trans rfl)
theorem dk_84 {code : ByteArray} {pc : Nat} (h : DkAt code pc [84]) : decode code pc = .ok (.bastore, 1) := dk_of ((dk_bind (dk_u1 (h 0 _ rfl))).trans rfl)
theorem dk_87 {code : ByteArray} {pc : Nat} (h : DkAt code pc [87]) : decode code pc = .ok (.pop, 1) := dk_of ((dk_bind (dk_u1 (h 0 _ rfl))).trans rfl)
theorem dk_89 {code : ByteArray} {pc : Nat} (h : DkAt code pc [89]) : decode code pc = .ok (.dup, 1) := dk_of ((dk_bind (dk_u1 (h 0 _ rfl))).trans rfl)
theorem dk_92 {code : ByteArray} {pc : Nat} (h : DkAt code pc [92]) : decode code pc = .ok (.dup2, 1) := dk_of ((dk_bind (dk_u1 (h 0 _ rfl))).trans rfl)
theorem dk_96 {code : ByteArray} {pc : Nat} (h : DkAt code pc [96]) : decode code pc = .ok (.iadd, 1) := dk_of ((dk_bind (dk_u1 (h 0 _ rfl))).trans rfl)
theorem dk_100 {code : ByteArray} {pc : Nat} (h : DkAt code pc [100]) : decode code pc = .ok (.isub, 1) := dk_of ((dk_bind (dk_u1 (h 0 _ rfl))).trans rfl)
theorem dk_104 {code : ByteArray} {pc : Nat} (h : DkAt code pc [104]) : decode code pc = .ok (.imul, 1) := dk_of ((dk_bind (dk_u1 (h 0 _ rfl))).trans rfl)
theorem dk_112 {code : ByteArray} {pc : Nat} (h : DkAt code pc [112]) : decode code pc = .ok (.irem, 1) := dk_of ((dk_bind (dk_u1 (h 0 _ rfl))).trans rfl)
theorem dk_120 {code : ByteArray} {pc : Nat} (h : DkAt code pc [120]) : decode code pc = .ok (.ishl, 1) := dk_of ((dk_bind (dk_u1 (h 0 _ rfl))).trans rfl)
theorem dk_121 {code : ByteArray} {pc : Nat} (h : DkAt code pc [121]) : decode code pc = .ok (.lshl, 1) := dk_of ((dk_bind (dk_u1 (h 0 _ rfl))).trans rfl)
theorem dk_122 {code : ByteArray} {pc : Nat} (h : DkAt code pc [122]) : decode code pc = .ok (.ishr, 1) := dk_of ((dk_bind (dk_u1 (h 0 _ rfl))).trans rfl)
theorem dk_124 {code : ByteArray} {pc : Nat} (h : DkAt code pc [124]) : decode code pc = .ok (.iushr, 1) := dk_of ((dk_bind (dk_u1 (h 0 _ rfl))).trans rfl)
theorem dk_125 {code : ByteArray} {pc : Nat} (h : DkAt code pc [125]) : decode code pc = .ok (.lushr, 1) := dk_of ((dk_bind (dk_u1 (h 0 _ rfl))).trans rfl)
theorem dk_126 {code : ByteArray} {pc : Nat} (h : DkAt code pc [126]) : decode code pc = .ok (.iand, 1) := dk_of ((dk_bind (dk_u1 (h 0 _ rfl))).trans rfl)
theorem dk_127 {code : ByteArray} {pc : Nat} (h : DkAt code pc [127]) : decode code pc = .ok (.land, 1) := dk_of ((dk_bind (dk_u1 (h 0 _ rfl))).trans rfl)
theorem dk_128 {code : ByteArray} {pc : Nat} (h : DkAt code pc [128]) : decode code pc = .ok (.ior, 1) := dk_of ((dk_bind (dk_u1 (h 0 _ rfl))).trans rfl)
theorem dk_129 {code : ByteArray} {pc : Nat} (h : DkAt code pc [129]) : decode code pc = .ok (.lor, 1) := dk_of ((dk_bind (dk_u1 (h 0 _ rfl))).trans rfl)
theorem dk_130 {code : ByteArray} {pc : Nat} (h : DkAt code pc [130]) : decode code pc = .ok (.ixor, 1) := dk_of ((dk_bind (dk_u1 (h 0 _ rfl))).trans rfl)
theorem dk_132 {code : ByteArray} {pc : Nat} (a b : UInt8) (h : DkAt code pc [132, a, b]) : decode code pc = .ok (.iinc a.toNat (Reader.signed 8 b.toNat), 3) := dk_of ((dk_bind (dk_u1 (h 0 _ rfl))).trans ((dk_bind (dk_u1 (h 1 _ rfl))).trans ((dk_bind (dk_map (dk_u1 (h 2 _ rfl)))).trans rfl)))
theorem dk_133 {code : ByteArray} {pc : Nat} (h : DkAt code pc [133]) : decode code pc = .ok (.i2l, 1) := dk_of ((dk_bind (dk_u1 (h 0 _ rfl))).trans rfl)
theorem dk_136 {code : ByteArray} {pc : Nat} (h : DkAt code pc [136]) : decode code pc = .ok (.l2i, 1) := dk_of ((dk_bind (dk_u1 (h 0 _ rfl))).trans rfl)
theorem dk_145 {code : ByteArray} {pc : Nat} (h : DkAt code pc [145]) : decode code pc = .ok (.i2b, 1) := dk_of ((dk_bind (dk_u1 (h 0 _ rfl))).trans rfl)
theorem dk_153 {code : ByteArray} {pc : Nat} (a b : UInt8) (h : DkAt code pc [153, a, b]) : decode code pc = .ok (.ifCond .eq (Reader.signed 16 (a.toNat * 256 + b.toNat)), 3) := dk_of ((dk_bind (dk_u1 (h 0 _ rfl))).trans ((dk_bind (dk_map (dk_u2 (h 1 _ rfl) (h 2 _ rfl)))).trans rfl))
theorem dk_154 {code : ByteArray} {pc : Nat} (a b : UInt8) (h : DkAt code pc [154, a, b]) : decode code pc = .ok (.ifCond .ne (Reader.signed 16 (a.toNat * 256 + b.toNat)), 3) := dk_of ((dk_bind (dk_u1 (h 0 _ rfl))).trans ((dk_bind (dk_map (dk_u2 (h 1 _ rfl) (h 2 _ rfl)))).trans rfl))
theorem dk_158 {code : ByteArray} {pc : Nat} (a b : UInt8) (h : DkAt code pc [158, a, b]) : decode code pc = .ok (.ifCond .le (Reader.signed 16 (a.toNat * 256 + b.toNat)), 3) := dk_of ((dk_bind (dk_u1 (h 0 _ rfl))).trans ((dk_bind (dk_map (dk_u2 (h 1 _ rfl) (h 2 _ rfl)))).trans rfl))
theorem dk_159 {code : ByteArray} {pc : Nat} (a b : UInt8) (h : DkAt code pc [159, a, b]) : decode code pc = .ok (.if_icmp .eq (Reader.signed 16 (a.toNat * 256 + b.toNat)), 3) := dk_of ((dk_bind (dk_u1 (h 0 _ rfl))).trans ((dk_bind (dk_map (dk_u2 (h 1 _ rfl) (h 2 _ rfl)))).trans rfl))
theorem dk_160 {code : ByteArray} {pc : Nat} (a b : UInt8) (h : DkAt code pc [160, a, b]) : decode code pc = .ok (.if_icmp .ne (Reader.signed 16 (a.toNat * 256 + b.toNat)), 3) := dk_of ((dk_bind (dk_u1 (h 0 _ rfl))).trans ((dk_bind (dk_map (dk_u2 (h 1 _ rfl) (h 2 _ rfl)))).trans rfl))
theorem dk_161 {code : ByteArray} {pc : Nat} (a b : UInt8) (h : DkAt code pc [161, a, b]) : decode code pc = .ok (.if_icmp .lt (Reader.signed 16 (a.toNat * 256 + b.toNat)), 3) := dk_of ((dk_bind (dk_u1 (h 0 _ rfl))).trans ((dk_bind (dk_map (dk_u2 (h 1 _ rfl) (h 2 _ rfl)))).trans rfl))
theorem dk_162 {code : ByteArray} {pc : Nat} (a b : UInt8) (h : DkAt code pc [162, a, b]) : decode code pc = .ok (.if_icmp .ge (Reader.signed 16 (a.toNat * 256 + b.toNat)), 3) := dk_of ((dk_bind (dk_u1 (h 0 _ rfl))).trans ((dk_bind (dk_map (dk_u2 (h 1 _ rfl) (h 2 _ rfl)))).trans rfl))
theorem dk_163 {code : ByteArray} {pc : Nat} (a b : UInt8) (h : DkAt code pc [163, a, b]) : decode code pc = .ok (.if_icmp .gt (Reader.signed 16 (a.toNat * 256 + b.toNat)), 3) := dk_of ((dk_bind (dk_u1 (h 0 _ rfl))).trans ((dk_bind (dk_map (dk_u2 (h 1 _ rfl) (h 2 _ rfl)))).trans rfl))
theorem dk_164 {code : ByteArray} {pc : Nat} (a b : UInt8) (h : DkAt code pc [164, a, b]) : decode code pc = .ok (.if_icmp .le (Reader.signed 16 (a.toNat * 256 + b.toNat)), 3) := dk_of ((dk_bind (dk_u1 (h 0 _ rfl))).trans ((dk_bind (dk_map (dk_u2 (h 1 _ rfl) (h 2 _ rfl)))).trans rfl))
theorem dk_167 {code : ByteArray} {pc : Nat} (a b : UInt8) (h : DkAt code pc [167, a, b]) : decode code pc = .ok (.goto (Reader.signed 16 (a.toNat * 256 + b.toNat)), 3) := dk_of ((dk_bind (dk_u1 (h 0 _ rfl))).trans ((dk_bind (dk_map (dk_u2 (h 1 _ rfl) (h 2 _ rfl)))).trans rfl))
theorem dk_172 {code : ByteArray} {pc : Nat} (h : DkAt code pc [172]) : decode code pc = .ok (.ireturn, 1) := dk_of ((dk_bind (dk_u1 (h 0 _ rfl))).trans rfl)
theorem dk_173 {code : ByteArray} {pc : Nat} (h : DkAt code pc [173]) : decode code pc = .ok (.lreturn, 1) := dk_of ((dk_bind (dk_u1 (h 0 _ rfl))).trans rfl)
theorem dk_177 {code : ByteArray} {pc : Nat} (h : DkAt code pc [177]) : decode code pc = .ok (.return_, 1) := dk_of ((dk_bind (dk_u1 (h 0 _ rfl))).trans rfl)
theorem dk_178 {code : ByteArray} {pc : Nat} (a b : UInt8) (h : DkAt code pc [178, a, b]) : decode code pc = .ok (.getstatic (a.toNat * 256 + b.toNat), 3) := dk_of ((dk_bind (dk_u1 (h 0 _ rfl))).trans ((dk_bind (dk_u2 (h 1 _ rfl) (h 2 _ rfl))).trans rfl))
theorem dk_180 {code : ByteArray} {pc : Nat} (a b : UInt8) (h : DkAt code pc [180, a, b]) : decode code pc = .ok (.getfield (a.toNat * 256 + b.toNat), 3) := dk_of ((dk_bind (dk_u1 (h 0 _ rfl))).trans ((dk_bind (dk_u2 (h 1 _ rfl) (h 2 _ rfl))).trans rfl))
theorem dk_181 {code : ByteArray} {pc : Nat} (a b : UInt8) (h : DkAt code pc [181, a, b]) : decode code pc = .ok (.putfield (a.toNat * 256 + b.toNat), 3) := dk_of ((dk_bind (dk_u1 (h 0 _ rfl))).trans ((dk_bind (dk_u2 (h 1 _ rfl) (h 2 _ rfl))).trans rfl))
theorem dk_182 {code : ByteArray} {pc : Nat} (a b : UInt8) (h : DkAt code pc [182, a, b]) : decode code pc = .ok (.invokevirtual (a.toNat * 256 + b.toNat), 3) := dk_of ((dk_bind (dk_u1 (h 0 _ rfl))).trans ((dk_bind (dk_u2 (h 1 _ rfl) (h 2 _ rfl))).trans rfl))
theorem dk_183 {code : ByteArray} {pc : Nat} (a b : UInt8) (h : DkAt code pc [183, a, b]) : decode code pc = .ok (.invokespecial (a.toNat * 256 + b.toNat), 3) := dk_of ((dk_bind (dk_u1 (h 0 _ rfl))).trans ((dk_bind (dk_u2 (h 1 _ rfl) (h 2 _ rfl))).trans rfl))
theorem dk_184 {code : ByteArray} {pc : Nat} (a b : UInt8) (h : DkAt code pc [184, a, b]) : decode code pc = .ok (.invokestatic (a.toNat * 256 + b.toNat), 3) := dk_of ((dk_bind (dk_u1 (h 0 _ rfl))).trans ((dk_bind (dk_u2 (h 1 _ rfl) (h 2 _ rfl))).trans rfl))
theorem dk_187 {code : ByteArray} {pc : Nat} (a b : UInt8) (h : DkAt code pc [187, a, b]) : decode code pc = .ok (.new (a.toNat * 256 + b.toNat), 3) := dk_of ((dk_bind (dk_u1 (h 0 _ rfl))).trans ((dk_bind (dk_u2 (h 1 _ rfl) (h 2 _ rfl))).trans rfl))
theorem dk_188_8 {code : ByteArray} {pc : Nat} (h : DkAt code pc [188, 8]) : decode code pc = .ok (.newarray .byte, 2) := dk_of ((dk_bind (dk_u1 (h 0 _ rfl))).trans ((dk_bind (dk_u1 (h 1 _ rfl))).trans rfl))
theorem dk_188_10 {code : ByteArray} {pc : Nat} (h : DkAt code pc [188, 10]) : decode code pc = .ok (.newarray .int, 2) := dk_of ((dk_bind (dk_u1 (h 0 _ rfl))).trans ((dk_bind (dk_u1 (h 1 _ rfl))).trans rfl))
theorem dk_190 {code : ByteArray} {pc : Nat} (h : DkAt code pc [190]) : decode code pc = .ok (.arraylength, 1) := dk_of ((dk_bind (dk_u1 (h 0 _ rfl))).trans rfl)
theorem dk_191 {code : ByteArray} {pc : Nat} (h : DkAt code pc [191]) : decode code pc = .ok (.athrow, 1) := dk_of ((dk_bind (dk_u1 (h 0 _ rfl))).trans rfl)
theorem dk_192 {code : ByteArray} {pc : Nat} (a b : UInt8) (h : DkAt code pc [192, a, b]) : decode code pc = .ok (.checkcast (a.toNat * 256 + b.toNat), 3) := dk_of ((dk_bind (dk_u1 (h 0 _ rfl))).trans ((dk_bind (dk_u2 (h 1 _ rfl) (h 2 _ rfl))).trans rfl))
theorem dk_193 {code : ByteArray} {pc : Nat} (a b : UInt8) (h : DkAt code pc [193, a, b]) : decode code pc = .ok (.instanceof (a.toNat * 256 + b.toNat), 3) := dk_of ((dk_bind (dk_u1 (h 0 _ rfl))).trans ((dk_bind (dk_u2 (h 1 _ rfl) (h 2 _ rfl))).trans rfl))
theorem dk_199 {code : ByteArray} {pc : Nat} (a b : UInt8) (h : DkAt code pc [199, a, b]) : decode code pc = .ok (.ifnonnull (Reader.signed 16 (a.toNat * 256 + b.toNat)), 3) := dk_of ((dk_bind (dk_u1 (h 0 _ rfl))).trans ((dk_bind (dk_map (dk_u2 (h 1 _ rfl) (h 2 _ rfl)))).trans rfl))
end
section
set_option maxRecDepth 100000
/-! java/lang/Object -/
set_option maxRecDepth 100000
def RJ5 : String := "java/lang/Object"
abbrev cJ5_init : ByteArray := object_method_1_code
def yJ5_init : MethodName := ⟨RJ5, "<init>", "()V"⟩
theorem dJ5_init_0 : decode cJ5_init 0 = .ok (.return_, 1) := by decide +kernel
theorem q33 : (Jvm.Cond.instanceMethod ({ cls := "java/lang/Object", name := "<init>", desc := "()V" } : Jvm.MethodName)) ∈ lw_all := lw_g (lw_at lw_m1 20 rfl) rfl
theorem q34 : (Jvm.Cond.code ({ cls := "java/lang/Object", name := "<init>", desc := "()V" } : Jvm.MethodName) object_method_1_code (1 : Nat) (Option.none : Option Jvm.ClassFile.FieldType)) ∈ lw_all := lw_g (lw_at lw_m1 21 rfl) rfl

/-! BlowfishDesk -/
set_option maxRecDepth 100000
def RX0 : String := "BlowfishDesk"
def TX0 : u_T := fun k => match k with
  | 0 => ("BlowfishDesk", "key", "[B", true)
  | 1 => ("BlowfishDesk", "block", "[B", true)
  | _ => ("BlowfishDesk", "out", "[B", true)
def tyX0 : Nat → FieldType := fun k => match k with
  | 0 => .array .byte
  | 1 => .array .byte
  | _ => .array .byte
abbrev wsX00 : List Cond := u_ws RX0 TX0 3
theorem nmX0 : ∀ a, a < 3 → ∀ b, b < 3 → a ≠ b → (TX0 a).2.1 ≠ (TX0 b).2.1 := by decide +kernel
theorem tyX0_ok : ∀ k, k < 3 → parseFieldDescriptor (TX0 k).2.2.1 = some (tyX0 k) := by decide +kernel
abbrev cX0_init : ByteArray := prog_2_method_1_code
def yX0_init : MethodName := ⟨RX0, "<init>", "()V"⟩
def dkwX0_init_1 : List UInt8 := [188, 8, 181, 0, 16, 177]
abbrev dktX0_init_1 : List UInt8 := dkwX0_init_1 ++ []
def dkwX0_init_0 : List UInt8 := [42, 183, 0, 1, 42, 16, 32, 188, 8, 181, 0, 7, 42, 16, 8, 188, 8, 181, 0, 13, 42, 16, 8]
abbrev dktX0_init_0 : List UInt8 := dkwX0_init_0 ++ dktX0_init_1
theorem dksX0_init_0 : cX0_init.data.toList.drop 0 = dktX0_init_0 := by decide +kernel
theorem dksX0_init_1 : cX0_init.data.toList.drop 23 = dktX0_init_1 := dk_seg dksX0_init_0 23 rfl rfl
theorem dX0_init_0 : decode cX0_init 0 = .ok (.aload_n 0, 1) := dk_42 (dk_at dksX0_init_0 0 rfl rfl)
theorem dX0_init_1 : decode cX0_init 1 = .ok (.invokespecial 1, 3) := dk_183 0 1 (dk_at dksX0_init_0 1 rfl rfl)
theorem dX0_init_4 : decode cX0_init 4 = .ok (.aload_n 0, 1) := dk_42 (dk_at dksX0_init_0 4 rfl rfl)
theorem dX0_init_5 : decode cX0_init 5 = .ok (.bipush 32, 2) := dk_16 32 (dk_at dksX0_init_0 5 rfl rfl)
theorem dX0_init_7 : decode cX0_init 7 = .ok (.newarray .byte, 2) := dk_188_8 (dk_at dksX0_init_0 7 rfl rfl)
theorem dX0_init_9 : decode cX0_init 9 = .ok (.putfield 7, 3) := dk_181 0 7 (dk_at dksX0_init_0 9 rfl rfl)
theorem dX0_init_12 : decode cX0_init 12 = .ok (.aload_n 0, 1) := dk_42 (dk_at dksX0_init_0 12 rfl rfl)
theorem dX0_init_13 : decode cX0_init 13 = .ok (.bipush 8, 2) := dk_16 8 (dk_at dksX0_init_0 13 rfl rfl)
theorem dX0_init_15 : decode cX0_init 15 = .ok (.newarray .byte, 2) := dk_188_8 (dk_at dksX0_init_0 15 rfl rfl)
theorem dX0_init_17 : decode cX0_init 17 = .ok (.putfield 13, 3) := dk_181 0 13 (dk_at dksX0_init_0 17 rfl rfl)
theorem dX0_init_20 : decode cX0_init 20 = .ok (.aload_n 0, 1) := dk_42 (dk_at dksX0_init_0 20 rfl rfl)
theorem dX0_init_21 : decode cX0_init 21 = .ok (.bipush 8, 2) := dk_16 8 (dk_at dksX0_init_0 21 rfl rfl)
theorem dX0_init_23 : decode cX0_init 23 = .ok (.newarray .byte, 2) := dk_188_8 (dk_at dksX0_init_1 0 rfl rfl)
theorem dX0_init_25 : decode cX0_init 25 = .ok (.putfield 16, 3) := dk_181 0 16 (dk_at dksX0_init_1 2 rfl rfl)
theorem dX0_init_28 : decode cX0_init 28 = .ok (.return_, 1) := dk_177 (dk_at dksX0_init_1 5 rfl rfl)
abbrev cX0_key : ByteArray := prog_2_method_3_code
def yX0_key : MethodName := ⟨RX0, "key", "(IIIII)V"⟩
def dkwX0_key_2 : List UInt8 := [21, 6, 16, 12, 96, 21, 5, 184, 0, 19, 177]
abbrev dktX0_key_2 : List UInt8 := dkwX0_key_2 ++ []
def dkwX0_key_1 : List UInt8 := [96, 29, 184, 0, 19, 42, 180, 0, 7, 21, 6, 16, 8, 96, 21, 4, 184, 0, 19, 42, 180, 0, 7]
abbrev dktX0_key_1 : List UInt8 := dkwX0_key_1 ++ dktX0_key_2
def dkwX0_key_0 : List UInt8 := [27, 4, 126, 7, 120, 54, 6, 42, 180, 0, 7, 21, 6, 28, 184, 0, 19, 42, 180, 0, 7, 21, 6, 7]
abbrev dktX0_key_0 : List UInt8 := dkwX0_key_0 ++ dktX0_key_1
theorem dksX0_key_0 : cX0_key.data.toList.drop 0 = dktX0_key_0 := by decide +kernel
theorem dksX0_key_1 : cX0_key.data.toList.drop 24 = dktX0_key_1 := dk_seg dksX0_key_0 24 rfl rfl
theorem dksX0_key_2 : cX0_key.data.toList.drop 47 = dktX0_key_2 := dk_seg dksX0_key_1 23 rfl rfl
theorem dX0_key_0 : decode cX0_key 0 = .ok (.iload_n 1, 1) := dk_27 (dk_at dksX0_key_0 0 rfl rfl)
theorem dX0_key_1 : decode cX0_key 1 = .ok (.iconst 1, 1) := dk_4 (dk_at dksX0_key_0 1 rfl rfl)
theorem dX0_key_2 : decode cX0_key 2 = .ok (.iand, 1) := dk_126 (dk_at dksX0_key_0 2 rfl rfl)
theorem dX0_key_3 : decode cX0_key 3 = .ok (.iconst 4, 1) := dk_7 (dk_at dksX0_key_0 3 rfl rfl)
theorem dX0_key_4 : decode cX0_key 4 = .ok (.ishl, 1) := dk_120 (dk_at dksX0_key_0 4 rfl rfl)
theorem dX0_key_5 : decode cX0_key 5 = .ok (.istore 6, 2) := dk_54 6 (dk_at dksX0_key_0 5 rfl rfl)
theorem dX0_key_7 : decode cX0_key 7 = .ok (.aload_n 0, 1) := dk_42 (dk_at dksX0_key_0 7 rfl rfl)
theorem dX0_key_8 : decode cX0_key 8 = .ok (.getfield 7, 3) := dk_180 0 7 (dk_at dksX0_key_0 8 rfl rfl)
theorem dX0_key_11 : decode cX0_key 11 = .ok (.iload 6, 2) := dk_21 6 (dk_at dksX0_key_0 11 rfl rfl)
theorem dX0_key_13 : decode cX0_key 13 = .ok (.iload_n 2, 1) := dk_28 (dk_at dksX0_key_0 13 rfl rfl)
theorem dX0_key_14 : decode cX0_key 14 = .ok (.invokestatic 19, 3) := dk_184 0 19 (dk_at dksX0_key_0 14 rfl rfl)
theorem dX0_key_17 : decode cX0_key 17 = .ok (.aload_n 0, 1) := dk_42 (dk_at dksX0_key_0 17 rfl rfl)
theorem dX0_key_18 : decode cX0_key 18 = .ok (.getfield 7, 3) := dk_180 0 7 (dk_at dksX0_key_0 18 rfl rfl)
theorem dX0_key_21 : decode cX0_key 21 = .ok (.iload 6, 2) := dk_21 6 (dk_at dksX0_key_0 21 rfl rfl)
theorem dX0_key_23 : decode cX0_key 23 = .ok (.iconst 4, 1) := dk_7 (dk_at dksX0_key_0 23 rfl rfl)
theorem dX0_key_24 : decode cX0_key 24 = .ok (.iadd, 1) := dk_96 (dk_at dksX0_key_1 0 rfl rfl)
theorem dX0_key_25 : decode cX0_key 25 = .ok (.iload_n 3, 1) := dk_29 (dk_at dksX0_key_1 1 rfl rfl)
theorem dX0_key_26 : decode cX0_key 26 = .ok (.invokestatic 19, 3) := dk_184 0 19 (dk_at dksX0_key_1 2 rfl rfl)
theorem dX0_key_29 : decode cX0_key 29 = .ok (.aload_n 0, 1) := dk_42 (dk_at dksX0_key_1 5 rfl rfl)
theorem dX0_key_30 : decode cX0_key 30 = .ok (.getfield 7, 3) := dk_180 0 7 (dk_at dksX0_key_1 6 rfl rfl)
theorem dX0_key_33 : decode cX0_key 33 = .ok (.iload 6, 2) := dk_21 6 (dk_at dksX0_key_1 9 rfl rfl)
theorem dX0_key_35 : decode cX0_key 35 = .ok (.bipush 8, 2) := dk_16 8 (dk_at dksX0_key_1 11 rfl rfl)
theorem dX0_key_37 : decode cX0_key 37 = .ok (.iadd, 1) := dk_96 (dk_at dksX0_key_1 13 rfl rfl)
theorem dX0_key_38 : decode cX0_key 38 = .ok (.iload 4, 2) := dk_21 4 (dk_at dksX0_key_1 14 rfl rfl)
theorem dX0_key_40 : decode cX0_key 40 = .ok (.invokestatic 19, 3) := dk_184 0 19 (dk_at dksX0_key_1 16 rfl rfl)
theorem dX0_key_43 : decode cX0_key 43 = .ok (.aload_n 0, 1) := dk_42 (dk_at dksX0_key_1 19 rfl rfl)
theorem dX0_key_44 : decode cX0_key 44 = .ok (.getfield 7, 3) := dk_180 0 7 (dk_at dksX0_key_1 20 rfl rfl)
theorem dX0_key_47 : decode cX0_key 47 = .ok (.iload 6, 2) := dk_21 6 (dk_at dksX0_key_2 0 rfl rfl)
theorem dX0_key_49 : decode cX0_key 49 = .ok (.bipush 12, 2) := dk_16 12 (dk_at dksX0_key_2 2 rfl rfl)
theorem dX0_key_51 : decode cX0_key 51 = .ok (.iadd, 1) := dk_96 (dk_at dksX0_key_2 4 rfl rfl)
theorem dX0_key_52 : decode cX0_key 52 = .ok (.iload 5, 2) := dk_21 5 (dk_at dksX0_key_2 5 rfl rfl)
theorem dX0_key_54 : decode cX0_key 54 = .ok (.invokestatic 19, 3) := dk_184 0 19 (dk_at dksX0_key_2 7 rfl rfl)
theorem dX0_key_57 : decode cX0_key 57 = .ok (.return_, 1) := dk_177 (dk_at dksX0_key_2 10 rfl rfl)
abbrev cX0_word : ByteArray := prog_2_method_2_code
def yX0_word : MethodName := ⟨RX0, "word", "([BII)V"⟩
def dkwX0_word_1 : List UInt8 := [16, 8, 122, 145, 84, 42, 27, 6, 96, 28, 145, 84, 177]
abbrev dktX0_word_1 : List UInt8 := dkwX0_word_1 ++ []
def dkwX0_word_0 : List UInt8 := [42, 27, 28, 16, 24, 122, 145, 84, 42, 27, 4, 96, 28, 16, 16, 122, 145, 84, 42, 27, 5, 96, 28]
abbrev dktX0_word_0 : List UInt8 := dkwX0_word_0 ++ dktX0_word_1
theorem dksX0_word_0 : cX0_word.data.toList.drop 0 = dktX0_word_0 := by decide +kernel
theorem dksX0_word_1 : cX0_word.data.toList.drop 23 = dktX0_word_1 := dk_seg dksX0_word_0 23 rfl rfl
theorem dX0_word_0 : decode cX0_word 0 = .ok (.aload_n 0, 1) := dk_42 (dk_at dksX0_word_0 0 rfl rfl)
theorem dX0_word_1 : decode cX0_word 1 = .ok (.iload_n 1, 1) := dk_27 (dk_at dksX0_word_0 1 rfl rfl)
theorem dX0_word_2 : decode cX0_word 2 = .ok (.iload_n 2, 1) := dk_28 (dk_at dksX0_word_0 2 rfl rfl)
theorem dX0_word_3 : decode cX0_word 3 = .ok (.bipush 24, 2) := dk_16 24 (dk_at dksX0_word_0 3 rfl rfl)
theorem dX0_word_5 : decode cX0_word 5 = .ok (.ishr, 1) := dk_122 (dk_at dksX0_word_0 5 rfl rfl)
theorem dX0_word_6 : decode cX0_word 6 = .ok (.i2b, 1) := dk_145 (dk_at dksX0_word_0 6 rfl rfl)
theorem dX0_word_7 : decode cX0_word 7 = .ok (.bastore, 1) := dk_84 (dk_at dksX0_word_0 7 rfl rfl)
theorem dX0_word_8 : decode cX0_word 8 = .ok (.aload_n 0, 1) := dk_42 (dk_at dksX0_word_0 8 rfl rfl)
theorem dX0_word_9 : decode cX0_word 9 = .ok (.iload_n 1, 1) := dk_27 (dk_at dksX0_word_0 9 rfl rfl)
theorem dX0_word_10 : decode cX0_word 10 = .ok (.iconst 1, 1) := dk_4 (dk_at dksX0_word_0 10 rfl rfl)
theorem dX0_word_11 : decode cX0_word 11 = .ok (.iadd, 1) := dk_96 (dk_at dksX0_word_0 11 rfl rfl)
theorem dX0_word_12 : decode cX0_word 12 = .ok (.iload_n 2, 1) := dk_28 (dk_at dksX0_word_0 12 rfl rfl)
theorem dX0_word_13 : decode cX0_word 13 = .ok (.bipush 16, 2) := dk_16 16 (dk_at dksX0_word_0 13 rfl rfl)
theorem dX0_word_15 : decode cX0_word 15 = .ok (.ishr, 1) := dk_122 (dk_at dksX0_word_0 15 rfl rfl)
theorem dX0_word_16 : decode cX0_word 16 = .ok (.i2b, 1) := dk_145 (dk_at dksX0_word_0 16 rfl rfl)
theorem dX0_word_17 : decode cX0_word 17 = .ok (.bastore, 1) := dk_84 (dk_at dksX0_word_0 17 rfl rfl)
theorem dX0_word_18 : decode cX0_word 18 = .ok (.aload_n 0, 1) := dk_42 (dk_at dksX0_word_0 18 rfl rfl)
theorem dX0_word_19 : decode cX0_word 19 = .ok (.iload_n 1, 1) := dk_27 (dk_at dksX0_word_0 19 rfl rfl)
theorem dX0_word_20 : decode cX0_word 20 = .ok (.iconst 2, 1) := dk_5 (dk_at dksX0_word_0 20 rfl rfl)
theorem dX0_word_21 : decode cX0_word 21 = .ok (.iadd, 1) := dk_96 (dk_at dksX0_word_0 21 rfl rfl)
theorem dX0_word_22 : decode cX0_word 22 = .ok (.iload_n 2, 1) := dk_28 (dk_at dksX0_word_0 22 rfl rfl)
theorem dX0_word_23 : decode cX0_word 23 = .ok (.bipush 8, 2) := dk_16 8 (dk_at dksX0_word_1 0 rfl rfl)
theorem dX0_word_25 : decode cX0_word 25 = .ok (.ishr, 1) := dk_122 (dk_at dksX0_word_1 2 rfl rfl)
theorem dX0_word_26 : decode cX0_word 26 = .ok (.i2b, 1) := dk_145 (dk_at dksX0_word_1 3 rfl rfl)
theorem dX0_word_27 : decode cX0_word 27 = .ok (.bastore, 1) := dk_84 (dk_at dksX0_word_1 4 rfl rfl)
theorem dX0_word_28 : decode cX0_word 28 = .ok (.aload_n 0, 1) := dk_42 (dk_at dksX0_word_1 5 rfl rfl)
theorem dX0_word_29 : decode cX0_word 29 = .ok (.iload_n 1, 1) := dk_27 (dk_at dksX0_word_1 6 rfl rfl)
theorem dX0_word_30 : decode cX0_word 30 = .ok (.iconst 3, 1) := dk_6 (dk_at dksX0_word_1 7 rfl rfl)
theorem dX0_word_31 : decode cX0_word 31 = .ok (.iadd, 1) := dk_96 (dk_at dksX0_word_1 8 rfl rfl)
theorem dX0_word_32 : decode cX0_word 32 = .ok (.iload_n 2, 1) := dk_28 (dk_at dksX0_word_1 9 rfl rfl)
theorem dX0_word_33 : decode cX0_word 33 = .ok (.i2b, 1) := dk_145 (dk_at dksX0_word_1 10 rfl rfl)
theorem dX0_word_34 : decode cX0_word 34 = .ok (.bastore, 1) := dk_84 (dk_at dksX0_word_1 11 rfl rfl)
theorem dX0_word_35 : decode cX0_word 35 = .ok (.return_, 1) := dk_177 (dk_at dksX0_word_1 12 rfl rfl)
abbrev cX0_block : ByteArray := prog_2_method_4_code
def yX0_block : MethodName := ⟨RX0, "block", "(II)V"⟩
def dkwX0_block_0 : List UInt8 := [42, 180, 0, 13, 3, 27, 184, 0, 19, 42, 180, 0, 13, 7, 28, 184, 0, 19, 177]
abbrev dktX0_block_0 : List UInt8 := dkwX0_block_0 ++ []
theorem dksX0_block_0 : cX0_block.data.toList.drop 0 = dktX0_block_0 := by decide +kernel
theorem dX0_block_0 : decode cX0_block 0 = .ok (.aload_n 0, 1) := dk_42 (dk_at dksX0_block_0 0 rfl rfl)
theorem dX0_block_1 : decode cX0_block 1 = .ok (.getfield 13, 3) := dk_180 0 13 (dk_at dksX0_block_0 1 rfl rfl)
theorem dX0_block_4 : decode cX0_block 4 = .ok (.iconst 0, 1) := dk_3 (dk_at dksX0_block_0 4 rfl rfl)
theorem dX0_block_5 : decode cX0_block 5 = .ok (.iload_n 1, 1) := dk_27 (dk_at dksX0_block_0 5 rfl rfl)
theorem dX0_block_6 : decode cX0_block 6 = .ok (.invokestatic 19, 3) := dk_184 0 19 (dk_at dksX0_block_0 6 rfl rfl)
theorem dX0_block_9 : decode cX0_block 9 = .ok (.aload_n 0, 1) := dk_42 (dk_at dksX0_block_0 9 rfl rfl)
theorem dX0_block_10 : decode cX0_block 10 = .ok (.getfield 13, 3) := dk_180 0 13 (dk_at dksX0_block_0 10 rfl rfl)
theorem dX0_block_13 : decode cX0_block 13 = .ok (.iconst 4, 1) := dk_7 (dk_at dksX0_block_0 13 rfl rfl)
theorem dX0_block_14 : decode cX0_block 14 = .ok (.iload_n 2, 1) := dk_28 (dk_at dksX0_block_0 14 rfl rfl)
theorem dX0_block_15 : decode cX0_block 15 = .ok (.invokestatic 19, 3) := dk_184 0 19 (dk_at dksX0_block_0 15 rfl rfl)
theorem dX0_block_18 : decode cX0_block 18 = .ok (.return_, 1) := dk_177 (dk_at dksX0_block_0 18 rfl rfl)
abbrev cX0_lock : ByteArray := prog_2_method_7_code
def yX0_lock : MethodName := ⟨RX0, "lock", "(I)V"⟩
def dkwX0_lock_0 : List UInt8 := [42, 4, 27, 182, 0, 45, 177]
abbrev dktX0_lock_0 : List UInt8 := dkwX0_lock_0 ++ []
theorem dksX0_lock_0 : cX0_lock.data.toList.drop 0 = dktX0_lock_0 := by decide +kernel
theorem dX0_lock_0 : decode cX0_lock 0 = .ok (.aload_n 0, 1) := dk_42 (dk_at dksX0_lock_0 0 rfl rfl)
theorem dX0_lock_1 : decode cX0_lock 1 = .ok (.iconst 1, 1) := dk_4 (dk_at dksX0_lock_0 1 rfl rfl)
theorem dX0_lock_2 : decode cX0_lock 2 = .ok (.iload_n 1, 1) := dk_27 (dk_at dksX0_lock_0 2 rfl rfl)
theorem dX0_lock_3 : decode cX0_lock 3 = .ok (.invokevirtual 45, 3) := dk_182 0 45 (dk_at dksX0_lock_0 3 rfl rfl)
theorem dX0_lock_6 : decode cX0_lock 6 = .ok (.return_, 1) := dk_177 (dk_at dksX0_lock_0 6 rfl rfl)
abbrev cX0_run : ByteArray := prog_2_method_5_code
def yX0_run : MethodName := ⟨RX0, "run", "(ZI)V"⟩
def dkwX0_run_3 : List UInt8 := [180, 0, 13, 3, 42, 180, 0, 16, 3, 185, 0, 41, 5, 0, 87, 177]
abbrev dktX0_run_3 : List UInt8 := dkwX0_run_3 ++ []
def dkwX0_run_2 : List UInt8 := [58, 5, 25, 5, 27, 187, 0, 30, 89, 25, 4, 183, 0, 32, 185, 0, 35, 3, 0, 25, 5, 42]
abbrev dktX0_run_2 : List UInt8 := dkwX0_run_2 ++ dktX0_run_3
def dkwX0_run_1 : List UInt8 := [21, 5, 42, 180, 0, 7, 21, 5, 51, 84, 132, 5, 1, 167, 255, 235, 187, 0, 27, 89, 183, 0, 29]
abbrev dktX0_run_1 : List UInt8 := dkwX0_run_1 ++ dktX0_run_2
def dkwX0_run_0 : List UInt8 := [28, 6, 126, 184, 0, 23, 62, 29, 188, 8, 58, 4, 3, 54, 5, 21, 5, 29, 162, 0, 21, 25, 4]
abbrev dktX0_run_0 : List UInt8 := dkwX0_run_0 ++ dktX0_run_1
theorem dksX0_run_0 : cX0_run.data.toList.drop 0 = dktX0_run_0 := by decide +kernel
theorem dksX0_run_1 : cX0_run.data.toList.drop 23 = dktX0_run_1 := dk_seg dksX0_run_0 23 rfl rfl
theorem dksX0_run_2 : cX0_run.data.toList.drop 46 = dktX0_run_2 := dk_seg dksX0_run_1 23 rfl rfl
theorem dksX0_run_3 : cX0_run.data.toList.drop 68 = dktX0_run_3 := dk_seg dksX0_run_2 22 rfl rfl
theorem dX0_run_0 : decode cX0_run 0 = .ok (.iload_n 2, 1) := dk_28 (dk_at dksX0_run_0 0 rfl rfl)
theorem dX0_run_1 : decode cX0_run 1 = .ok (.iconst 3, 1) := dk_6 (dk_at dksX0_run_0 1 rfl rfl)
theorem dX0_run_2 : decode cX0_run 2 = .ok (.iand, 1) := dk_126 (dk_at dksX0_run_0 2 rfl rfl)
theorem dX0_run_3 : decode cX0_run 3 = .ok (.invokestatic 23, 3) := dk_184 0 23 (dk_at dksX0_run_0 3 rfl rfl)
theorem dX0_run_6 : decode cX0_run 6 = .ok (.istore_n 3, 1) := dk_62 (dk_at dksX0_run_0 6 rfl rfl)
theorem dX0_run_7 : decode cX0_run 7 = .ok (.iload_n 3, 1) := dk_29 (dk_at dksX0_run_0 7 rfl rfl)
theorem dX0_run_8 : decode cX0_run 8 = .ok (.newarray .byte, 2) := dk_188_8 (dk_at dksX0_run_0 8 rfl rfl)
theorem dX0_run_10 : decode cX0_run 10 = .ok (.astore 4, 2) := dk_58 4 (dk_at dksX0_run_0 10 rfl rfl)
theorem dX0_run_12 : decode cX0_run 12 = .ok (.iconst 0, 1) := dk_3 (dk_at dksX0_run_0 12 rfl rfl)
theorem dX0_run_13 : decode cX0_run 13 = .ok (.istore 5, 2) := dk_54 5 (dk_at dksX0_run_0 13 rfl rfl)
theorem dX0_run_15 : decode cX0_run 15 = .ok (.iload 5, 2) := dk_21 5 (dk_at dksX0_run_0 15 rfl rfl)
theorem dX0_run_17 : decode cX0_run 17 = .ok (.iload_n 3, 1) := dk_29 (dk_at dksX0_run_0 17 rfl rfl)
theorem dX0_run_18 : decode cX0_run 18 = .ok (.if_icmp .ge 21, 3) := dk_162 0 21 (dk_at dksX0_run_0 18 rfl rfl)
theorem dX0_run_21 : decode cX0_run 21 = .ok (.aload 4, 2) := dk_25 4 (dk_at dksX0_run_0 21 rfl rfl)
theorem dX0_run_23 : decode cX0_run 23 = .ok (.iload 5, 2) := dk_21 5 (dk_at dksX0_run_1 0 rfl rfl)
theorem dX0_run_25 : decode cX0_run 25 = .ok (.aload_n 0, 1) := dk_42 (dk_at dksX0_run_1 2 rfl rfl)
theorem dX0_run_26 : decode cX0_run 26 = .ok (.getfield 7, 3) := dk_180 0 7 (dk_at dksX0_run_1 3 rfl rfl)
theorem dX0_run_29 : decode cX0_run 29 = .ok (.iload 5, 2) := dk_21 5 (dk_at dksX0_run_1 6 rfl rfl)
theorem dX0_run_31 : decode cX0_run 31 = .ok (.baload, 1) := dk_51 (dk_at dksX0_run_1 8 rfl rfl)
theorem dX0_run_32 : decode cX0_run 32 = .ok (.bastore, 1) := dk_84 (dk_at dksX0_run_1 9 rfl rfl)
theorem dX0_run_33 : decode cX0_run 33 = .ok (.iinc 5 1, 3) := dk_132 5 1 (dk_at dksX0_run_1 10 rfl rfl)
theorem dX0_run_36 : decode cX0_run 36 = .ok (.goto (-21), 3) := dk_167 255 235 (dk_at dksX0_run_1 13 rfl rfl)
theorem dX0_run_39 : decode cX0_run 39 = .ok (.new 27, 3) := dk_187 0 27 (dk_at dksX0_run_1 16 rfl rfl)
theorem dX0_run_42 : decode cX0_run 42 = .ok (.dup, 1) := dk_89 (dk_at dksX0_run_1 19 rfl rfl)
theorem dX0_run_43 : decode cX0_run 43 = .ok (.invokespecial 29, 3) := dk_183 0 29 (dk_at dksX0_run_1 20 rfl rfl)
theorem dX0_run_46 : decode cX0_run 46 = .ok (.astore 5, 2) := dk_58 5 (dk_at dksX0_run_2 0 rfl rfl)
theorem dX0_run_48 : decode cX0_run 48 = .ok (.aload 5, 2) := dk_25 5 (dk_at dksX0_run_2 2 rfl rfl)
theorem dX0_run_50 : decode cX0_run 50 = .ok (.iload_n 1, 1) := dk_27 (dk_at dksX0_run_2 4 rfl rfl)
theorem dX0_run_51 : decode cX0_run 51 = .ok (.new 30, 3) := dk_187 0 30 (dk_at dksX0_run_2 5 rfl rfl)
theorem dX0_run_54 : decode cX0_run 54 = .ok (.dup, 1) := dk_89 (dk_at dksX0_run_2 8 rfl rfl)
theorem dX0_run_55 : decode cX0_run 55 = .ok (.aload 4, 2) := dk_25 4 (dk_at dksX0_run_2 9 rfl rfl)
theorem dX0_run_57 : decode cX0_run 57 = .ok (.invokespecial 32, 3) := dk_183 0 32 (dk_at dksX0_run_2 11 rfl rfl)
theorem dX0_run_60 : decode cX0_run 60 = .ok (.invokeinterface 35 3, 5) := by decide +kernel
theorem dX0_run_65 : decode cX0_run 65 = .ok (.aload 5, 2) := dk_25 5 (dk_at dksX0_run_2 19 rfl rfl)
theorem dX0_run_67 : decode cX0_run 67 = .ok (.aload_n 0, 1) := dk_42 (dk_at dksX0_run_2 21 rfl rfl)
theorem dX0_run_68 : decode cX0_run 68 = .ok (.getfield 13, 3) := dk_180 0 13 (dk_at dksX0_run_3 0 rfl rfl)
theorem dX0_run_71 : decode cX0_run 71 = .ok (.iconst 0, 1) := dk_3 (dk_at dksX0_run_3 3 rfl rfl)
theorem dX0_run_72 : decode cX0_run 72 = .ok (.aload_n 0, 1) := dk_42 (dk_at dksX0_run_3 4 rfl rfl)
theorem dX0_run_73 : decode cX0_run 73 = .ok (.getfield 16, 3) := dk_180 0 16 (dk_at dksX0_run_3 5 rfl rfl)
theorem dX0_run_76 : decode cX0_run 76 = .ok (.iconst 0, 1) := dk_3 (dk_at dksX0_run_3 8 rfl rfl)
theorem dX0_run_77 : decode cX0_run 77 = .ok (.invokeinterface 41 5, 5) := by decide +kernel
theorem dX0_run_82 : decode cX0_run 82 = .ok (.pop, 1) := dk_87 (dk_at dksX0_run_3 14 rfl rfl)
theorem dX0_run_83 : decode cX0_run 83 = .ok (.return_, 1) := dk_177 (dk_at dksX0_run_3 15 rfl rfl)
abbrev cX0_size : ByteArray := prog_2_method_6_code
def yX0_size : MethodName := ⟨RX0, "size", "(I)I"⟩
def dkwX0_size_1 : List UInt8 := [167, 0, 5, 16, 24, 172]
abbrev dktX0_size_1 : List UInt8 := dkwX0_size_1 ++ []
def dkwX0_size_0 : List UInt8 := [26, 6, 126, 6, 112, 154, 0, 8, 16, 8, 167, 0, 19, 26, 6, 126, 6, 112, 4, 160, 0, 8, 16, 16]
abbrev dktX0_size_0 : List UInt8 := dkwX0_size_0 ++ dktX0_size_1
theorem dksX0_size_0 : cX0_size.data.toList.drop 0 = dktX0_size_0 := by decide +kernel
theorem dksX0_size_1 : cX0_size.data.toList.drop 24 = dktX0_size_1 := dk_seg dksX0_size_0 24 rfl rfl
theorem dX0_size_0 : decode cX0_size 0 = .ok (.iload_n 0, 1) := dk_26 (dk_at dksX0_size_0 0 rfl rfl)
theorem dX0_size_1 : decode cX0_size 1 = .ok (.iconst 3, 1) := dk_6 (dk_at dksX0_size_0 1 rfl rfl)
theorem dX0_size_2 : decode cX0_size 2 = .ok (.iand, 1) := dk_126 (dk_at dksX0_size_0 2 rfl rfl)
theorem dX0_size_3 : decode cX0_size 3 = .ok (.iconst 3, 1) := dk_6 (dk_at dksX0_size_0 3 rfl rfl)
theorem dX0_size_4 : decode cX0_size 4 = .ok (.irem, 1) := dk_112 (dk_at dksX0_size_0 4 rfl rfl)
theorem dX0_size_5 : decode cX0_size 5 = .ok (.ifCond .ne 8, 3) := dk_154 0 8 (dk_at dksX0_size_0 5 rfl rfl)
theorem dX0_size_8 : decode cX0_size 8 = .ok (.bipush 8, 2) := dk_16 8 (dk_at dksX0_size_0 8 rfl rfl)
theorem dX0_size_10 : decode cX0_size 10 = .ok (.goto 19, 3) := dk_167 0 19 (dk_at dksX0_size_0 10 rfl rfl)
theorem dX0_size_13 : decode cX0_size 13 = .ok (.iload_n 0, 1) := dk_26 (dk_at dksX0_size_0 13 rfl rfl)
theorem dX0_size_14 : decode cX0_size 14 = .ok (.iconst 3, 1) := dk_6 (dk_at dksX0_size_0 14 rfl rfl)
theorem dX0_size_15 : decode cX0_size 15 = .ok (.iand, 1) := dk_126 (dk_at dksX0_size_0 15 rfl rfl)
theorem dX0_size_16 : decode cX0_size 16 = .ok (.iconst 3, 1) := dk_6 (dk_at dksX0_size_0 16 rfl rfl)
theorem dX0_size_17 : decode cX0_size 17 = .ok (.irem, 1) := dk_112 (dk_at dksX0_size_0 17 rfl rfl)
theorem dX0_size_18 : decode cX0_size 18 = .ok (.iconst 1, 1) := dk_4 (dk_at dksX0_size_0 18 rfl rfl)
theorem dX0_size_19 : decode cX0_size 19 = .ok (.if_icmp .ne 8, 3) := dk_160 0 8 (dk_at dksX0_size_0 19 rfl rfl)
theorem dX0_size_22 : decode cX0_size 22 = .ok (.bipush 16, 2) := dk_16 16 (dk_at dksX0_size_0 22 rfl rfl)
theorem dX0_size_24 : decode cX0_size 24 = .ok (.goto 5, 3) := dk_167 0 5 (dk_at dksX0_size_1 0 rfl rfl)
theorem dX0_size_27 : decode cX0_size 27 = .ok (.bipush 24, 2) := dk_16 24 (dk_at dksX0_size_1 3 rfl rfl)
theorem dX0_size_29 : decode cX0_size 29 = .ok (.ireturn, 1) := dk_172 (dk_at dksX0_size_1 5 rfl rfl)
abbrev cX0_open : ByteArray := prog_2_method_8_code
def yX0_open : MethodName := ⟨RX0, "open", "(I)V"⟩
def dkwX0_open_0 : List UInt8 := [42, 3, 27, 182, 0, 45, 177]
abbrev dktX0_open_0 : List UInt8 := dkwX0_open_0 ++ []
theorem dksX0_open_0 : cX0_open.data.toList.drop 0 = dktX0_open_0 := by decide +kernel
theorem dX0_open_0 : decode cX0_open 0 = .ok (.aload_n 0, 1) := dk_42 (dk_at dksX0_open_0 0 rfl rfl)
theorem dX0_open_1 : decode cX0_open 1 = .ok (.iconst 0, 1) := dk_3 (dk_at dksX0_open_0 1 rfl rfl)
theorem dX0_open_2 : decode cX0_open 2 = .ok (.iload_n 1, 1) := dk_27 (dk_at dksX0_open_0 2 rfl rfl)
theorem dX0_open_3 : decode cX0_open 3 = .ok (.invokevirtual 45, 3) := dk_182 0 45 (dk_at dksX0_open_0 3 rfl rfl)
theorem dX0_open_6 : decode cX0_open 6 = .ok (.return_, 1) := dk_177 (dk_at dksX0_open_0 6 rfl rfl)
abbrev cX0_again : ByteArray := prog_2_method_9_code
def yX0_again : MethodName := ⟨RX0, "again", "()V"⟩
def dkwX0_again_1 : List UInt8 := [167, 255, 235, 177]
abbrev dktX0_again_1 : List UInt8 := dkwX0_again_1 ++ []
def dkwX0_again_0 : List UInt8 := [3, 60, 27, 16, 8, 162, 0, 21, 42, 180, 0, 13, 27, 42, 180, 0, 16, 27, 51, 84, 132, 1, 1]
abbrev dktX0_again_0 : List UInt8 := dkwX0_again_0 ++ dktX0_again_1
theorem dksX0_again_0 : cX0_again.data.toList.drop 0 = dktX0_again_0 := by decide +kernel
theorem dksX0_again_1 : cX0_again.data.toList.drop 23 = dktX0_again_1 := dk_seg dksX0_again_0 23 rfl rfl
theorem dX0_again_0 : decode cX0_again 0 = .ok (.iconst 0, 1) := dk_3 (dk_at dksX0_again_0 0 rfl rfl)
theorem dX0_again_1 : decode cX0_again 1 = .ok (.istore_n 1, 1) := dk_60 (dk_at dksX0_again_0 1 rfl rfl)
theorem dX0_again_2 : decode cX0_again 2 = .ok (.iload_n 1, 1) := dk_27 (dk_at dksX0_again_0 2 rfl rfl)
theorem dX0_again_3 : decode cX0_again 3 = .ok (.bipush 8, 2) := dk_16 8 (dk_at dksX0_again_0 3 rfl rfl)
theorem dX0_again_5 : decode cX0_again 5 = .ok (.if_icmp .ge 21, 3) := dk_162 0 21 (dk_at dksX0_again_0 5 rfl rfl)
theorem dX0_again_8 : decode cX0_again 8 = .ok (.aload_n 0, 1) := dk_42 (dk_at dksX0_again_0 8 rfl rfl)
theorem dX0_again_9 : decode cX0_again 9 = .ok (.getfield 13, 3) := dk_180 0 13 (dk_at dksX0_again_0 9 rfl rfl)
theorem dX0_again_12 : decode cX0_again 12 = .ok (.iload_n 1, 1) := dk_27 (dk_at dksX0_again_0 12 rfl rfl)
theorem dX0_again_13 : decode cX0_again 13 = .ok (.aload_n 0, 1) := dk_42 (dk_at dksX0_again_0 13 rfl rfl)
theorem dX0_again_14 : decode cX0_again 14 = .ok (.getfield 16, 3) := dk_180 0 16 (dk_at dksX0_again_0 14 rfl rfl)
theorem dX0_again_17 : decode cX0_again 17 = .ok (.iload_n 1, 1) := dk_27 (dk_at dksX0_again_0 17 rfl rfl)
theorem dX0_again_18 : decode cX0_again 18 = .ok (.baload, 1) := dk_51 (dk_at dksX0_again_0 18 rfl rfl)
theorem dX0_again_19 : decode cX0_again 19 = .ok (.bastore, 1) := dk_84 (dk_at dksX0_again_0 19 rfl rfl)
theorem dX0_again_20 : decode cX0_again 20 = .ok (.iinc 1 1, 3) := dk_132 1 1 (dk_at dksX0_again_0 20 rfl rfl)
theorem dX0_again_23 : decode cX0_again 23 = .ok (.goto (-21), 3) := dk_167 255 235 (dk_at dksX0_again_1 0 rfl rfl)
theorem dX0_again_26 : decode cX0_again 26 = .ok (.return_, 1) := dk_177 (dk_at dksX0_again_1 3 rfl rfl)
abbrev cX0_out : ByteArray := prog_2_method_10_code
def yX0_out : MethodName := ⟨RX0, "out", "(I)I"⟩
def dkwX0_out_0 : List UInt8 := [42, 180, 0, 16, 27, 16, 7, 126, 51, 17, 0, 255, 126, 172]
abbrev dktX0_out_0 : List UInt8 := dkwX0_out_0 ++ []
theorem dksX0_out_0 : cX0_out.data.toList.drop 0 = dktX0_out_0 := by decide +kernel
theorem dX0_out_0 : decode cX0_out 0 = .ok (.aload_n 0, 1) := dk_42 (dk_at dksX0_out_0 0 rfl rfl)
theorem dX0_out_1 : decode cX0_out 1 = .ok (.getfield 16, 3) := dk_180 0 16 (dk_at dksX0_out_0 1 rfl rfl)
theorem dX0_out_4 : decode cX0_out 4 = .ok (.iload_n 1, 1) := dk_27 (dk_at dksX0_out_0 4 rfl rfl)
theorem dX0_out_5 : decode cX0_out 5 = .ok (.bipush 7, 2) := dk_16 7 (dk_at dksX0_out_0 5 rfl rfl)
theorem dX0_out_7 : decode cX0_out 7 = .ok (.iand, 1) := dk_126 (dk_at dksX0_out_0 7 rfl rfl)
theorem dX0_out_8 : decode cX0_out 8 = .ok (.baload, 1) := dk_51 (dk_at dksX0_out_0 8 rfl rfl)
theorem dX0_out_9 : decode cX0_out 9 = .ok (.sipush 255, 3) := dk_17 0 255 (dk_at dksX0_out_0 9 rfl rfl)
theorem dX0_out_12 : decode cX0_out 12 = .ok (.iand, 1) := dk_126 (dk_at dksX0_out_0 12 rfl rfl)
theorem dX0_out_13 : decode cX0_out 13 = .ok (.ireturn, 1) := dk_172 (dk_at dksX0_out_0 13 rfl rfl)
theorem q14 : (Jvm.Cond.initialized "BlowfishDesk") ∈ lw_all := lw_g (lw_at lw_m1 1 rfl) rfl
theorem q28 : (Jvm.Cond.instantiable "BlowfishDesk" (3 : Nat)) ∈ lw_all := lw_g (lw_at lw_m1 15 rfl) rfl
theorem q30 : (Jvm.Cond.instanceMethod ({ cls := "BlowfishDesk", name := "<init>", desc := "()V" } : Jvm.MethodName)) ∈ lw_all := lw_g (lw_at lw_m1 17 rfl) rfl
theorem q31 : (Jvm.Cond.code ({ cls := "BlowfishDesk", name := "<init>", desc := "()V" } : Jvm.MethodName) prog_2_method_1_code (1 : Nat) (Option.none : Option Jvm.ClassFile.FieldType)) ∈ lw_all := lw_g (lw_at lw_m1 18 rfl) rfl
theorem q32 : (Jvm.Cond.methodLink "BlowfishDesk" (1 : Nat) ({ cls := "java/lang/Object", name := "<init>", desc := "()V" } : Jvm.MethodName)) ∈ lw_all := lw_g (lw_at lw_m1 19 rfl) rfl
theorem q35 : (Jvm.Cond.fieldLink "BlowfishDesk" (7 : Nat) "BlowfishDesk" "key" "[B") ∈ lw_all := lw_g (lw_at lw_m1 22 rfl) rfl
theorem q36 : (Jvm.Cond.fieldLink "BlowfishDesk" (13 : Nat) "BlowfishDesk" "block" "[B") ∈ lw_all := lw_g (lw_at lw_m1 23 rfl) rfl
theorem q37 : (Jvm.Cond.fieldLink "BlowfishDesk" (16 : Nat) "BlowfishDesk" "out" "[B") ∈ lw_all := lw_g (lw_at lw_m1 24 rfl) rfl
theorem q38 : (Jvm.Cond.laysFinal "BlowfishDesk" "BlowfishDesk" "key" "[B") ∈ lw_all := lw_g (lw_at lw_m1 25 rfl) rfl
theorem q39 : (Jvm.Cond.soleField "BlowfishDesk" "key") ∈ lw_all := lw_g (lw_at lw_m1 26 rfl) rfl
theorem q40 : (Jvm.Cond.laysFinal "BlowfishDesk" "BlowfishDesk" "block" "[B") ∈ lw_all := lw_g (lw_at lw_m1 27 rfl) rfl
theorem q41 : (Jvm.Cond.soleField "BlowfishDesk" "block") ∈ lw_all := lw_g (lw_at lw_m1 28 rfl) rfl
theorem q42 : (Jvm.Cond.laysFinal "BlowfishDesk" "BlowfishDesk" "out" "[B") ∈ lw_all := lw_g (lw_at lw_m1 29 rfl) rfl
theorem q43 : (Jvm.Cond.soleField "BlowfishDesk" "out") ∈ lw_all := lw_g (lw_at lw_m1 30 rfl) rfl
theorem q44 : (Jvm.Cond.superclass "BlowfishDesk" "java/lang/Object") ∈ lw_all := lw_g (lw_at lw_m1 31 rfl) rfl
theorem q47 : (Jvm.Cond.instanceMethod ({ cls := "BlowfishDesk", name := "key", desc := "(IIIII)V" } : Jvm.MethodName)) ∈ lw_all := lw_g (lw_at lw_m1 34 rfl) rfl
theorem q48 : (Jvm.Cond.selects "BlowfishDesk" ({ cls := "BlowfishDesk", name := "key", desc := "(IIIII)V" } : Jvm.MethodName) ({ cls := "BlowfishDesk", name := "key", desc := "(IIIII)V" } : Jvm.MethodName)) ∈ lw_all := lw_g (lw_at lw_m1 35 rfl) rfl
theorem q49 : (Jvm.Cond.code ({ cls := "BlowfishDesk", name := "key", desc := "(IIIII)V" } : Jvm.MethodName) prog_2_method_3_code (7 : Nat) (Option.none : Option Jvm.ClassFile.FieldType)) ∈ lw_all := lw_g (lw_at lw_m1 36 rfl) rfl
theorem q50 : (Jvm.Cond.methodLink "BlowfishDesk" (19 : Nat) ({ cls := "BlowfishDesk", name := "word", desc := "([BII)V" } : Jvm.MethodName)) ∈ lw_all := lw_g (lw_at lw_m1 37 rfl) rfl
theorem q51 : (Jvm.Cond.static ({ cls := "BlowfishDesk", name := "word", desc := "([BII)V" } : Jvm.MethodName)) ∈ lw_all := lw_g (lw_at lw_m1 38 rfl) rfl
theorem q52 : (Jvm.Cond.code ({ cls := "BlowfishDesk", name := "word", desc := "([BII)V" } : Jvm.MethodName) prog_2_method_2_code (3 : Nat) (Option.none : Option Jvm.ClassFile.FieldType)) ∈ lw_all := lw_g (lw_at lw_m1 39 rfl) rfl
theorem q54 : (Jvm.Cond.instanceMethod ({ cls := "BlowfishDesk", name := "block", desc := "(II)V" } : Jvm.MethodName)) ∈ lw_all := lw_g (lw_at lw_m1 41 rfl) rfl
theorem q55 : (Jvm.Cond.selects "BlowfishDesk" ({ cls := "BlowfishDesk", name := "block", desc := "(II)V" } : Jvm.MethodName) ({ cls := "BlowfishDesk", name := "block", desc := "(II)V" } : Jvm.MethodName)) ∈ lw_all := lw_g (lw_at lw_m1 42 rfl) rfl
theorem q56 : (Jvm.Cond.code ({ cls := "BlowfishDesk", name := "block", desc := "(II)V" } : Jvm.MethodName) prog_2_method_4_code (3 : Nat) (Option.none : Option Jvm.ClassFile.FieldType)) ∈ lw_all := lw_g (lw_at lw_m1 43 rfl) rfl
theorem q58 : (Jvm.Cond.instanceMethod ({ cls := "BlowfishDesk", name := "lock", desc := "(I)V" } : Jvm.MethodName)) ∈ lw_all := lw_g (lw_at lw_m1 45 rfl) rfl
theorem q59 : (Jvm.Cond.selects "BlowfishDesk" ({ cls := "BlowfishDesk", name := "lock", desc := "(I)V" } : Jvm.MethodName) ({ cls := "BlowfishDesk", name := "lock", desc := "(I)V" } : Jvm.MethodName)) ∈ lw_all := lw_g (lw_at lw_m1 46 rfl) rfl
theorem q60 : (Jvm.Cond.code ({ cls := "BlowfishDesk", name := "lock", desc := "(I)V" } : Jvm.MethodName) prog_2_method_7_code (2 : Nat) (Option.none : Option Jvm.ClassFile.FieldType)) ∈ lw_all := lw_g (lw_at lw_m1 47 rfl) rfl
theorem q61 : (Jvm.Cond.methodLink "BlowfishDesk" (45 : Nat) ({ cls := "BlowfishDesk", name := "run", desc := "(ZI)V" } : Jvm.MethodName)) ∈ lw_all := lw_g (lw_at lw_m1 48 rfl) rfl
theorem q62 : (Jvm.Cond.privateMethod ({ cls := "BlowfishDesk", name := "run", desc := "(ZI)V" } : Jvm.MethodName)) ∈ lw_tbl := lw_at lw_m1 49 rfl
theorem q63 : (Jvm.Cond.instanceMethod ({ cls := "BlowfishDesk", name := "run", desc := "(ZI)V" } : Jvm.MethodName)) ∈ lw_all := lw_g (lw_at lw_m1 50 rfl) rfl
theorem q64 : (Jvm.Cond.code ({ cls := "BlowfishDesk", name := "run", desc := "(ZI)V" } : Jvm.MethodName) prog_2_method_5_code (6 : Nat) (Option.none : Option Jvm.ClassFile.FieldType)) ∈ lw_all := lw_g (lw_at lw_m1 51 rfl) rfl
theorem q65 : (Jvm.Cond.methodLink "BlowfishDesk" (23 : Nat) ({ cls := "BlowfishDesk", name := "size", desc := "(I)I" } : Jvm.MethodName)) ∈ lw_all := lw_g (lw_at lw_m1 52 rfl) rfl
theorem q66 : (Jvm.Cond.static ({ cls := "BlowfishDesk", name := "size", desc := "(I)I" } : Jvm.MethodName)) ∈ lw_all := lw_g (lw_at lw_m1 53 rfl) rfl
theorem q67 : (Jvm.Cond.code ({ cls := "BlowfishDesk", name := "size", desc := "(I)I" } : Jvm.MethodName) prog_2_method_6_code (1 : Nat) (Option.some Jvm.ClassFile.FieldType.int)) ∈ lw_all := lw_g (lw_at lw_m1 54 rfl) rfl
theorem q68 : (Jvm.Cond.classLink "BlowfishDesk" (27 : Nat) "BlowfishEngine") ∈ lw_all := lw_g (lw_at lw_m1 55 rfl) rfl
theorem q70 : (Jvm.Cond.methodLink "BlowfishDesk" (29 : Nat) ({ cls := "BlowfishEngine", name := "<init>", desc := "()V" } : Jvm.MethodName)) ∈ lw_all := lw_g (lw_at lw_m1 57 rfl) rfl
theorem q97 : (Jvm.Cond.classLink "BlowfishDesk" (30 : Nat) "KeyParameter") ∈ lw_all := lw_g (lw_at lw_m1 84 rfl) rfl
theorem q99 : (Jvm.Cond.methodLink "BlowfishDesk" (32 : Nat) ({ cls := "KeyParameter", name := "<init>", desc := "([B)V" } : Jvm.MethodName)) ∈ lw_all := lw_g (lw_at lw_m1 86 rfl) rfl
theorem q116 : (Jvm.Cond.interfaceEntry "BlowfishDesk" (35 : Nat)) ∈ lw_tbl := lw_at lw_m1 103 rfl
theorem q117 : (Jvm.Cond.methodLink "BlowfishDesk" (35 : Nat) ({ cls := "BlockCipher", name := "init", desc := "(ZLCipherParameters;)V" } : Jvm.MethodName)) ∈ lw_all := lw_g (lw_at lw_m1 104 rfl) rfl
theorem q223 : (Jvm.Cond.interfaceEntry "BlowfishDesk" (41 : Nat)) ∈ lw_tbl := lw_at lw_m1 210 rfl
theorem q224 : (Jvm.Cond.methodLink "BlowfishDesk" (41 : Nat) ({ cls := "BlockCipher", name := "processBlock", desc := "([BI[BI)I" } : Jvm.MethodName)) ∈ lw_all := lw_g (lw_at lw_m1 211 rfl) rfl
theorem q302 : (Jvm.Cond.instanceMethod ({ cls := "BlowfishDesk", name := "open", desc := "(I)V" } : Jvm.MethodName)) ∈ lw_all := lw_g (lw_at lw_m2 49 rfl) rfl
theorem q303 : (Jvm.Cond.selects "BlowfishDesk" ({ cls := "BlowfishDesk", name := "open", desc := "(I)V" } : Jvm.MethodName) ({ cls := "BlowfishDesk", name := "open", desc := "(I)V" } : Jvm.MethodName)) ∈ lw_all := lw_g (lw_at lw_m2 50 rfl) rfl
theorem q304 : (Jvm.Cond.code ({ cls := "BlowfishDesk", name := "open", desc := "(I)V" } : Jvm.MethodName) prog_2_method_8_code (2 : Nat) (Option.none : Option Jvm.ClassFile.FieldType)) ∈ lw_all := lw_g (lw_at lw_m2 51 rfl) rfl
theorem q306 : (Jvm.Cond.instanceMethod ({ cls := "BlowfishDesk", name := "again", desc := "()V" } : Jvm.MethodName)) ∈ lw_all := lw_g (lw_at lw_m2 53 rfl) rfl
theorem q307 : (Jvm.Cond.selects "BlowfishDesk" ({ cls := "BlowfishDesk", name := "again", desc := "()V" } : Jvm.MethodName) ({ cls := "BlowfishDesk", name := "again", desc := "()V" } : Jvm.MethodName)) ∈ lw_all := lw_g (lw_at lw_m2 54 rfl) rfl
theorem q308 : (Jvm.Cond.code ({ cls := "BlowfishDesk", name := "again", desc := "()V" } : Jvm.MethodName) prog_2_method_9_code (2 : Nat) (Option.none : Option Jvm.ClassFile.FieldType)) ∈ lw_all := lw_g (lw_at lw_m2 55 rfl) rfl
theorem q310 : (Jvm.Cond.instanceMethod ({ cls := "BlowfishDesk", name := "out", desc := "(I)I" } : Jvm.MethodName)) ∈ lw_all := lw_g (lw_at lw_m2 57 rfl) rfl
theorem q311 : (Jvm.Cond.selects "BlowfishDesk" ({ cls := "BlowfishDesk", name := "out", desc := "(I)I" } : Jvm.MethodName) ({ cls := "BlowfishDesk", name := "out", desc := "(I)I" } : Jvm.MethodName)) ∈ lw_all := lw_g (lw_at lw_m2 58 rfl) rfl
theorem q312 : (Jvm.Cond.code ({ cls := "BlowfishDesk", name := "out", desc := "(I)I" } : Jvm.MethodName) prog_2_method_10_code (2 : Nat) (Option.some Jvm.ClassFile.FieldType.int)) ∈ lw_all := lw_g (lw_at lw_m2 59 rfl) rfl
theorem in_X0 : ∀ w ∈ wsX00, w ∈ lw_all := lw_in wsX00 [38, 40, 42] (by decide +kernel) (by decide +kernel)

/-! KeyParameter -/
set_option maxRecDepth 100000
def RX3 : String := "KeyParameter"
def TX3 : u_T := fun k => match k with
  | _ => ("KeyParameter", "key", "[B", false)
def tyX3 : Nat → FieldType := fun k => match k with
  | _ => .array .byte
abbrev wsX30 : List Cond := u_ws RX3 TX3 1
theorem nmX3 : ∀ a, a < 1 → ∀ b, b < 1 → a ≠ b → (TX3 a).2.1 ≠ (TX3 b).2.1 := by decide +kernel
theorem tyX3_ok : ∀ k, k < 1 → parseFieldDescriptor (TX3 k).2.2.1 = some (tyX3 k) := by decide +kernel
abbrev cX3_init : ByteArray := prog_8_method_1_code
def yX3_init : MethodName := ⟨RX3, "<init>", "([B)V"⟩
def dkwX3_init_0 : List UInt8 := [42, 43, 3, 43, 190, 183, 0, 1, 177]
abbrev dktX3_init_0 : List UInt8 := dkwX3_init_0 ++ []
theorem dksX3_init_0 : cX3_init.data.toList.drop 0 = dktX3_init_0 := by decide +kernel
theorem dX3_init_0 : decode cX3_init 0 = .ok (.aload_n 0, 1) := dk_42 (dk_at dksX3_init_0 0 rfl rfl)
theorem dX3_init_1 : decode cX3_init 1 = .ok (.aload_n 1, 1) := dk_43 (dk_at dksX3_init_0 1 rfl rfl)
theorem dX3_init_2 : decode cX3_init 2 = .ok (.iconst 0, 1) := dk_3 (dk_at dksX3_init_0 2 rfl rfl)
theorem dX3_init_3 : decode cX3_init 3 = .ok (.aload_n 1, 1) := dk_43 (dk_at dksX3_init_0 3 rfl rfl)
theorem dX3_init_4 : decode cX3_init 4 = .ok (.arraylength, 1) := dk_190 (dk_at dksX3_init_0 4 rfl rfl)
theorem dX3_init_5 : decode cX3_init 5 = .ok (.invokespecial 1, 3) := dk_183 0 1 (dk_at dksX3_init_0 5 rfl rfl)
theorem dX3_init_8 : decode cX3_init 8 = .ok (.return_, 1) := dk_177 (dk_at dksX3_init_0 8 rfl rfl)
abbrev cX3_init_2 : ByteArray := prog_8_method_2_code
def yX3_init_2 : MethodName := ⟨RX3, "<init>", "([BII)V"⟩
def dkwX3_init_2_0 : List UInt8 := [42, 29, 183, 0, 7, 43, 28, 42, 180, 0, 10, 3, 29, 184, 0, 14, 177]
abbrev dktX3_init_2_0 : List UInt8 := dkwX3_init_2_0 ++ []
theorem dksX3_init_2_0 : cX3_init_2.data.toList.drop 0 = dktX3_init_2_0 := by decide +kernel
theorem dX3_init_2_0 : decode cX3_init_2 0 = .ok (.aload_n 0, 1) := dk_42 (dk_at dksX3_init_2_0 0 rfl rfl)
theorem dX3_init_2_1 : decode cX3_init_2 1 = .ok (.iload_n 3, 1) := dk_29 (dk_at dksX3_init_2_0 1 rfl rfl)
theorem dX3_init_2_2 : decode cX3_init_2 2 = .ok (.invokespecial 7, 3) := dk_183 0 7 (dk_at dksX3_init_2_0 2 rfl rfl)
theorem dX3_init_2_5 : decode cX3_init_2 5 = .ok (.aload_n 1, 1) := dk_43 (dk_at dksX3_init_2_0 5 rfl rfl)
theorem dX3_init_2_6 : decode cX3_init_2 6 = .ok (.iload_n 2, 1) := dk_28 (dk_at dksX3_init_2_0 6 rfl rfl)
theorem dX3_init_2_7 : decode cX3_init_2 7 = .ok (.aload_n 0, 1) := dk_42 (dk_at dksX3_init_2_0 7 rfl rfl)
theorem dX3_init_2_8 : decode cX3_init_2 8 = .ok (.getfield 10, 3) := dk_180 0 10 (dk_at dksX3_init_2_0 8 rfl rfl)
theorem dX3_init_2_11 : decode cX3_init_2 11 = .ok (.iconst 0, 1) := dk_3 (dk_at dksX3_init_2_0 11 rfl rfl)
theorem dX3_init_2_12 : decode cX3_init_2 12 = .ok (.iload_n 3, 1) := dk_29 (dk_at dksX3_init_2_0 12 rfl rfl)
theorem dX3_init_2_13 : decode cX3_init_2 13 = .ok (.invokestatic 14, 3) := dk_184 0 14 (dk_at dksX3_init_2_0 13 rfl rfl)
theorem dX3_init_2_16 : decode cX3_init_2 16 = .ok (.return_, 1) := dk_177 (dk_at dksX3_init_2_0 16 rfl rfl)
abbrev cX3_init_3 : ByteArray := prog_8_method_3_code
def yX3_init_3 : MethodName := ⟨RX3, "<init>", "(I)V"⟩
def dkwX3_init_3_0 : List UInt8 := [42, 183, 0, 20, 42, 27, 188, 8, 181, 0, 10, 177]
abbrev dktX3_init_3_0 : List UInt8 := dkwX3_init_3_0 ++ []
theorem dksX3_init_3_0 : cX3_init_3.data.toList.drop 0 = dktX3_init_3_0 := by decide +kernel
theorem dX3_init_3_0 : decode cX3_init_3 0 = .ok (.aload_n 0, 1) := dk_42 (dk_at dksX3_init_3_0 0 rfl rfl)
theorem dX3_init_3_1 : decode cX3_init_3 1 = .ok (.invokespecial 20, 3) := dk_183 0 20 (dk_at dksX3_init_3_0 1 rfl rfl)
theorem dX3_init_3_4 : decode cX3_init_3 4 = .ok (.aload_n 0, 1) := dk_42 (dk_at dksX3_init_3_0 4 rfl rfl)
theorem dX3_init_3_5 : decode cX3_init_3 5 = .ok (.iload_n 1, 1) := dk_27 (dk_at dksX3_init_3_0 5 rfl rfl)
theorem dX3_init_3_6 : decode cX3_init_3 6 = .ok (.newarray .byte, 2) := dk_188_8 (dk_at dksX3_init_3_0 6 rfl rfl)
theorem dX3_init_3_8 : decode cX3_init_3 8 = .ok (.putfield 10, 3) := dk_181 0 10 (dk_at dksX3_init_3_0 8 rfl rfl)
theorem dX3_init_3_11 : decode cX3_init_3 11 = .ok (.return_, 1) := dk_177 (dk_at dksX3_init_3_0 11 rfl rfl)
abbrev cX3_getKey : ByteArray := prog_8_method_4_code
def yX3_getKey : MethodName := ⟨RX3, "getKey", "()[B"⟩
theorem dX3_getKey_0 : decode cX3_getKey 0 = .ok (.aload_n 0, 1) := by decide +kernel
theorem dX3_getKey_1 : decode cX3_getKey 1 = .ok (.getfield 10, 3) := by decide +kernel
theorem dX3_getKey_4 : decode cX3_getKey 4 = .ok (.areturn, 1) := by decide +kernel
theorem q17 : (Jvm.Cond.initialized "KeyParameter") ∈ lw_all := lw_g (lw_at lw_m1 4 rfl) rfl
theorem q98 : (Jvm.Cond.instantiable "KeyParameter" (1 : Nat)) ∈ lw_all := lw_g (lw_at lw_m1 85 rfl) rfl
theorem q100 : (Jvm.Cond.instanceMethod ({ cls := "KeyParameter", name := "<init>", desc := "([B)V" } : Jvm.MethodName)) ∈ lw_all := lw_g (lw_at lw_m1 87 rfl) rfl
theorem q101 : (Jvm.Cond.code ({ cls := "KeyParameter", name := "<init>", desc := "([B)V" } : Jvm.MethodName) prog_8_method_1_code (2 : Nat) (Option.none : Option Jvm.ClassFile.FieldType)) ∈ lw_all := lw_g (lw_at lw_m1 88 rfl) rfl
theorem q102 : (Jvm.Cond.methodLink "KeyParameter" (1 : Nat) ({ cls := "KeyParameter", name := "<init>", desc := "([BII)V" } : Jvm.MethodName)) ∈ lw_all := lw_g (lw_at lw_m1 89 rfl) rfl
theorem q103 : (Jvm.Cond.instanceMethod ({ cls := "KeyParameter", name := "<init>", desc := "([BII)V" } : Jvm.MethodName)) ∈ lw_all := lw_g (lw_at lw_m1 90 rfl) rfl
theorem q104 : (Jvm.Cond.code ({ cls := "KeyParameter", name := "<init>", desc := "([BII)V" } : Jvm.MethodName) prog_8_method_2_code (4 : Nat) (Option.none : Option Jvm.ClassFile.FieldType)) ∈ lw_all := lw_g (lw_at lw_m1 91 rfl) rfl
theorem q105 : (Jvm.Cond.methodLink "KeyParameter" (7 : Nat) ({ cls := "KeyParameter", name := "<init>", desc := "(I)V" } : Jvm.MethodName)) ∈ lw_all := lw_g (lw_at lw_m1 92 rfl) rfl
theorem q106 : (Jvm.Cond.instanceMethod ({ cls := "KeyParameter", name := "<init>", desc := "(I)V" } : Jvm.MethodName)) ∈ lw_all := lw_g (lw_at lw_m1 93 rfl) rfl
theorem q107 : (Jvm.Cond.code ({ cls := "KeyParameter", name := "<init>", desc := "(I)V" } : Jvm.MethodName) prog_8_method_3_code (2 : Nat) (Option.none : Option Jvm.ClassFile.FieldType)) ∈ lw_all := lw_g (lw_at lw_m1 94 rfl) rfl
theorem q108 : (Jvm.Cond.methodLink "KeyParameter" (20 : Nat) ({ cls := "java/lang/Object", name := "<init>", desc := "()V" } : Jvm.MethodName)) ∈ lw_all := lw_g (lw_at lw_m1 95 rfl) rfl
theorem q109 : (Jvm.Cond.fieldLink "KeyParameter" (10 : Nat) "KeyParameter" "key" "[B") ∈ lw_all := lw_g (lw_at lw_m1 96 rfl) rfl
theorem q110 : (Jvm.Cond.lays "KeyParameter" "KeyParameter" "key" "[B") ∈ lw_all := lw_g (lw_at lw_m1 97 rfl) rfl
theorem q111 : (Jvm.Cond.soleField "KeyParameter" "key") ∈ lw_all := lw_g (lw_at lw_m1 98 rfl) rfl
theorem q112 : (Jvm.Cond.superclass "KeyParameter" "java/lang/Object") ∈ lw_all := lw_g (lw_at lw_m1 99 rfl) rfl
theorem q113 : (Jvm.Cond.methodLink "KeyParameter" (14 : Nat) ({ cls := "java/lang/System", name := "arraycopy", desc := "(Ljava/lang/Object;ILjava/lang/Object;II)V" } : Jvm.MethodName)) ∈ lw_all := lw_g (lw_at lw_m1 100 rfl) rfl
theorem q128 : (Jvm.Cond.instanceMethod ({ cls := "KeyParameter", name := "getKey", desc := "()[B" } : Jvm.MethodName)) ∈ lw_all := lw_g (lw_at lw_m1 115 rfl) rfl
theorem q129 : (Jvm.Cond.selects "KeyParameter" ({ cls := "KeyParameter", name := "getKey", desc := "()[B" } : Jvm.MethodName) ({ cls := "KeyParameter", name := "getKey", desc := "()[B" } : Jvm.MethodName)) ∈ lw_all := lw_g (lw_at lw_m1 116 rfl) rfl
theorem q130 : (Jvm.Cond.code ({ cls := "KeyParameter", name := "getKey", desc := "()[B" } : Jvm.MethodName) prog_8_method_4_code (1 : Nat) (Option.some (Jvm.ClassFile.FieldType.array Jvm.ClassFile.FieldType.byte))) ∈ lw_all := lw_g (lw_at lw_m1 117 rfl) rfl
theorem in_X3 : ∀ w ∈ wsX30, w ∈ lw_all := lw_in wsX30 [110] (by decide +kernel) (by decide +kernel)

theorem q18 : (Jvm.Cond.initialized "java/lang/System") ∈ lw_all := lw_g (lw_at lw_m1 5 rfl) rfl
set_option maxRecDepth 100000
theorem q114 : (Jvm.Cond.static ({ cls := "java/lang/System", name := "arraycopy", desc := "(Ljava/lang/Object;ILjava/lang/Object;II)V" } : Jvm.MethodName)) ∈ lw_all := lw_g (lw_at lw_m1 101 rfl) rfl
theorem q115 : (Jvm.Cond.native ({ cls := "java/lang/System", name := "arraycopy", desc := "(Ljava/lang/Object;ILjava/lang/Object;II)V" } : Jvm.MethodName)) ∈ lw_all := lw_g (lw_at lw_m1 102 rfl) rfl

theorem q45 : (Jvm.Cond.arrayClass Jvm.ClassFile.FieldType.byte) ∈ lw_all := lw_g (lw_at lw_m1 32 rfl) rfl
set_option maxRecDepth 100000
theorem q96 : (Jvm.Cond.arrayClass Jvm.ClassFile.FieldType.int) ∈ lw_all := lw_g (lw_at lw_m1 83 rfl) rfl

theorem q118 : (Jvm.Cond.interfaceMethod "BlockCipher" "BlockCipher" "init" "(ZLCipherParameters;)V") ∈ lw_tbl := lw_at lw_m1 105 rfl
set_option maxRecDepth 100000
theorem q119 : (Jvm.Cond.declares ({ cls := "BlockCipher", name := "init", desc := "(ZLCipherParameters;)V" } : Jvm.MethodName)) ∈ lw_tbl := lw_at lw_m1 106 rfl
theorem q225 : (Jvm.Cond.interfaceMethod "BlockCipher" "BlockCipher" "processBlock" "([BI[BI)I") ∈ lw_tbl := lw_at lw_m1 212 rfl
theorem q226 : (Jvm.Cond.declares ({ cls := "BlockCipher", name := "processBlock", desc := "([BI[BI)I" } : Jvm.MethodName)) ∈ lw_tbl := lw_at lw_m1 213 rfl
end
section
/-! BlowfishEngine -/
set_option maxRecDepth 100000
def RX2 : String := "BlowfishEngine"
def TX2 : u_T := fun k => match k with
  | 0 => ("BlowfishEngine", "S0", "[I", true)
  | 1 => ("BlowfishEngine", "S1", "[I", true)
  | 2 => ("BlowfishEngine", "S2", "[I", true)
  | 3 => ("BlowfishEngine", "S3", "[I", true)
  | 4 => ("BlowfishEngine", "P", "[I", true)
  | 5 => ("BlowfishEngine", "encrypting", "Z", false)
  | _ => ("BlowfishEngine", "workingKey", "[B", false)
def tyX2 : Nat → FieldType := fun k => match k with
  | 0 => .array .int
  | 1 => .array .int
  | 2 => .array .int
  | 3 => .array .int
  | 4 => .array .int
  | 5 => .boolean
  | _ => .array .byte
abbrev wsX20 : List Cond := u_ws RX2 TX2 7
theorem nmX2 : ∀ a, a < 7 → ∀ b, b < 7 → a ≠ b → (TX2 a).2.1 ≠ (TX2 b).2.1 := by decide +kernel
theorem tyX2_ok : ∀ k, k < 7 → parseFieldDescriptor (TX2 k).2.2.1 = some (tyX2 k) := by decide +kernel
abbrev cX2_init : ByteArray := prog_5_method_1_code
def yX2_init : MethodName := ⟨RX2, "<init>", "()V"⟩
def dkwX2_init_2 : List UInt8 := [181, 0, 27, 42, 16, 18, 188, 10, 181, 0, 30, 177]
abbrev dktX2_init_2 : List UInt8 := dkwX2_init_2 ++ []
def dkwX2_init_1 : List UInt8 := [17, 1, 0, 188, 10, 181, 0, 21, 42, 17, 1, 0, 188, 10, 181, 0, 24, 42, 17, 1, 0, 188, 10]
abbrev dktX2_init_1 : List UInt8 := dkwX2_init_1 ++ dktX2_init_2
def dkwX2_init_0 : List UInt8 := [42, 183, 0, 3, 42, 3, 181, 0, 9, 42, 1, 181, 0, 13, 42, 17, 1, 0, 188, 10, 181, 0, 17, 42]
abbrev dktX2_init_0 : List UInt8 := dkwX2_init_0 ++ dktX2_init_1
theorem dksX2_init_0 : cX2_init.data.toList.drop 0 = dktX2_init_0 := by decide +kernel
theorem dksX2_init_1 : cX2_init.data.toList.drop 24 = dktX2_init_1 := dk_seg dksX2_init_0 24 rfl rfl
theorem dksX2_init_2 : cX2_init.data.toList.drop 47 = dktX2_init_2 := dk_seg dksX2_init_1 23 rfl rfl
theorem dX2_init_0 : decode cX2_init 0 = .ok (.aload_n 0, 1) := dk_42 (dk_at dksX2_init_0 0 rfl rfl)
theorem dX2_init_1 : decode cX2_init 1 = .ok (.invokespecial 3, 3) := dk_183 0 3 (dk_at dksX2_init_0 1 rfl rfl)
theorem dX2_init_4 : decode cX2_init 4 = .ok (.aload_n 0, 1) := dk_42 (dk_at dksX2_init_0 4 rfl rfl)
theorem dX2_init_5 : decode cX2_init 5 = .ok (.iconst 0, 1) := dk_3 (dk_at dksX2_init_0 5 rfl rfl)
theorem dX2_init_6 : decode cX2_init 6 = .ok (.putfield 9, 3) := dk_181 0 9 (dk_at dksX2_init_0 6 rfl rfl)
theorem dX2_init_9 : decode cX2_init 9 = .ok (.aload_n 0, 1) := dk_42 (dk_at dksX2_init_0 9 rfl rfl)
theorem dX2_init_10 : decode cX2_init 10 = .ok (.aconst_null, 1) := dk_1 (dk_at dksX2_init_0 10 rfl rfl)
theorem dX2_init_11 : decode cX2_init 11 = .ok (.putfield 13, 3) := dk_181 0 13 (dk_at dksX2_init_0 11 rfl rfl)
theorem dX2_init_14 : decode cX2_init 14 = .ok (.aload_n 0, 1) := dk_42 (dk_at dksX2_init_0 14 rfl rfl)
theorem dX2_init_15 : decode cX2_init 15 = .ok (.sipush 256, 3) := dk_17 1 0 (dk_at dksX2_init_0 15 rfl rfl)
theorem dX2_init_18 : decode cX2_init 18 = .ok (.newarray .int, 2) := dk_188_10 (dk_at dksX2_init_0 18 rfl rfl)
theorem dX2_init_20 : decode cX2_init 20 = .ok (.putfield 17, 3) := dk_181 0 17 (dk_at dksX2_init_0 20 rfl rfl)
theorem dX2_init_23 : decode cX2_init 23 = .ok (.aload_n 0, 1) := dk_42 (dk_at dksX2_init_0 23 rfl rfl)
theorem dX2_init_24 : decode cX2_init 24 = .ok (.sipush 256, 3) := dk_17 1 0 (dk_at dksX2_init_1 0 rfl rfl)
theorem dX2_init_27 : decode cX2_init 27 = .ok (.newarray .int, 2) := dk_188_10 (dk_at dksX2_init_1 3 rfl rfl)
theorem dX2_init_29 : decode cX2_init 29 = .ok (.putfield 21, 3) := dk_181 0 21 (dk_at dksX2_init_1 5 rfl rfl)
theorem dX2_init_32 : decode cX2_init 32 = .ok (.aload_n 0, 1) := dk_42 (dk_at dksX2_init_1 8 rfl rfl)
theorem dX2_init_33 : decode cX2_init 33 = .ok (.sipush 256, 3) := dk_17 1 0 (dk_at dksX2_init_1 9 rfl rfl)
theorem dX2_init_36 : decode cX2_init 36 = .ok (.newarray .int, 2) := dk_188_10 (dk_at dksX2_init_1 12 rfl rfl)
theorem dX2_init_38 : decode cX2_init 38 = .ok (.putfield 24, 3) := dk_181 0 24 (dk_at dksX2_init_1 14 rfl rfl)
theorem dX2_init_41 : decode cX2_init 41 = .ok (.aload_n 0, 1) := dk_42 (dk_at dksX2_init_1 17 rfl rfl)
theorem dX2_init_42 : decode cX2_init 42 = .ok (.sipush 256, 3) := dk_17 1 0 (dk_at dksX2_init_1 18 rfl rfl)
theorem dX2_init_45 : decode cX2_init 45 = .ok (.newarray .int, 2) := dk_188_10 (dk_at dksX2_init_1 21 rfl rfl)
theorem dX2_init_47 : decode cX2_init 47 = .ok (.putfield 27, 3) := dk_181 0 27 (dk_at dksX2_init_2 0 rfl rfl)
theorem dX2_init_50 : decode cX2_init 50 = .ok (.aload_n 0, 1) := dk_42 (dk_at dksX2_init_2 3 rfl rfl)
theorem dX2_init_51 : decode cX2_init 51 = .ok (.bipush 18, 2) := dk_16 18 (dk_at dksX2_init_2 4 rfl rfl)
theorem dX2_init_53 : decode cX2_init 53 = .ok (.newarray .int, 2) := dk_188_10 (dk_at dksX2_init_2 6 rfl rfl)
theorem dX2_init_55 : decode cX2_init 55 = .ok (.putfield 30, 3) := dk_181 0 30 (dk_at dksX2_init_2 8 rfl rfl)
theorem dX2_init_58 : decode cX2_init 58 = .ok (.return_, 1) := dk_177 (dk_at dksX2_init_2 11 rfl rfl)
abbrev cX2_init_2 : ByteArray := prog_5_method_2_code
def yX2_init_2 : MethodName := ⟨RX2, "init", "(ZLCipherParameters;)V"⟩
def dkwX2_init_2_1 : List UInt8 := [42, 180, 0, 13, 182, 0, 39, 177, 187, 0, 43, 89, 18, 45, 183, 0, 47, 191]
abbrev dktX2_init_2_1 : List UInt8 := dkwX2_init_2_1 ++ []
def dkwX2_init_2_0 : List UInt8 := [44, 193, 0, 33, 153, 0, 28, 42, 27, 181, 0, 9, 42, 44, 192, 0, 33, 182, 0, 35, 181, 0, 13, 42]
abbrev dktX2_init_2_0 : List UInt8 := dkwX2_init_2_0 ++ dktX2_init_2_1
theorem dksX2_init_2_0 : cX2_init_2.data.toList.drop 0 = dktX2_init_2_0 := by decide +kernel
theorem dksX2_init_2_1 : cX2_init_2.data.toList.drop 24 = dktX2_init_2_1 := dk_seg dksX2_init_2_0 24 rfl rfl
theorem dX2_init_2_0 : decode cX2_init_2 0 = .ok (.aload_n 2, 1) := dk_44 (dk_at dksX2_init_2_0 0 rfl rfl)
theorem dX2_init_2_1 : decode cX2_init_2 1 = .ok (.instanceof 33, 3) := dk_193 0 33 (dk_at dksX2_init_2_0 1 rfl rfl)
theorem dX2_init_2_4 : decode cX2_init_2 4 = .ok (.ifCond .eq 28, 3) := dk_153 0 28 (dk_at dksX2_init_2_0 4 rfl rfl)
theorem dX2_init_2_7 : decode cX2_init_2 7 = .ok (.aload_n 0, 1) := dk_42 (dk_at dksX2_init_2_0 7 rfl rfl)
theorem dX2_init_2_8 : decode cX2_init_2 8 = .ok (.iload_n 1, 1) := dk_27 (dk_at dksX2_init_2_0 8 rfl rfl)
theorem dX2_init_2_9 : decode cX2_init_2 9 = .ok (.putfield 9, 3) := dk_181 0 9 (dk_at dksX2_init_2_0 9 rfl rfl)
theorem dX2_init_2_12 : decode cX2_init_2 12 = .ok (.aload_n 0, 1) := dk_42 (dk_at dksX2_init_2_0 12 rfl rfl)
theorem dX2_init_2_13 : decode cX2_init_2 13 = .ok (.aload_n 2, 1) := dk_44 (dk_at dksX2_init_2_0 13 rfl rfl)
theorem dX2_init_2_14 : decode cX2_init_2 14 = .ok (.checkcast 33, 3) := dk_192 0 33 (dk_at dksX2_init_2_0 14 rfl rfl)
theorem dX2_init_2_17 : decode cX2_init_2 17 = .ok (.invokevirtual 35, 3) := dk_182 0 35 (dk_at dksX2_init_2_0 17 rfl rfl)
theorem dX2_init_2_20 : decode cX2_init_2 20 = .ok (.putfield 13, 3) := dk_181 0 13 (dk_at dksX2_init_2_0 20 rfl rfl)
theorem dX2_init_2_23 : decode cX2_init_2 23 = .ok (.aload_n 0, 1) := dk_42 (dk_at dksX2_init_2_0 23 rfl rfl)
theorem dX2_init_2_24 : decode cX2_init_2 24 = .ok (.aload_n 0, 1) := dk_42 (dk_at dksX2_init_2_1 0 rfl rfl)
theorem dX2_init_2_25 : decode cX2_init_2 25 = .ok (.getfield 13, 3) := dk_180 0 13 (dk_at dksX2_init_2_1 1 rfl rfl)
theorem dX2_init_2_28 : decode cX2_init_2 28 = .ok (.invokevirtual 39, 3) := dk_182 0 39 (dk_at dksX2_init_2_1 4 rfl rfl)
theorem dX2_init_2_31 : decode cX2_init_2 31 = .ok (.return_, 1) := dk_177 (dk_at dksX2_init_2_1 7 rfl rfl)
theorem dX2_init_2_32 : decode cX2_init_2 32 = .ok (.new 43, 3) := dk_187 0 43 (dk_at dksX2_init_2_1 8 rfl rfl)
theorem dX2_init_2_35 : decode cX2_init_2 35 = .ok (.dup, 1) := dk_89 (dk_at dksX2_init_2_1 11 rfl rfl)
theorem dX2_init_2_36 : decode cX2_init_2 36 = .ok (.ldc 45, 2) := dk_18 45 (dk_at dksX2_init_2_1 12 rfl rfl)
theorem dX2_init_2_38 : decode cX2_init_2 38 = .ok (.invokespecial 47, 3) := dk_183 0 47 (dk_at dksX2_init_2_1 14 rfl rfl)
theorem dX2_init_2_41 : decode cX2_init_2 41 = .ok (.athrow, 1) := dk_191 (dk_at dksX2_init_2_1 17 rfl rfl)
abbrev cX2_setKey : ByteArray := prog_5_method_6_code
def yX2_setKey : MethodName := ⟨RX2, "setKey", "([B)V"⟩
def dkwX2_setKey_11 : List UInt8 := [42, 180, 0, 24, 17, 0, 255, 46, 42, 180, 0, 27, 182, 0, 99, 177]
abbrev dktX2_setKey_11 : List UInt8 := dkwX2_setKey_11 ++ []
def dkwX2_setKey_10 : List UInt8 := [42, 180, 0, 21, 17, 0, 255, 46, 42, 180, 0, 24, 182, 0, 99, 42, 42, 180, 0, 24, 17, 0, 254, 46]
abbrev dktX2_setKey_10 : List UInt8 := dkwX2_setKey_10 ++ dktX2_setKey_11
def dkwX2_setKey_9 : List UInt8 := [42, 180, 0, 17, 17, 0, 255, 46, 42, 180, 0, 21, 182, 0, 99, 42, 42, 180, 0, 21, 17, 0, 254, 46]
abbrev dktX2_setKey_9 : List UInt8 := dkwX2_setKey_9 ++ dktX2_setKey_10
def dkwX2_setKey_8 : List UInt8 := [46, 42, 180, 0, 30, 16, 17, 46, 42, 180, 0, 17, 182, 0, 99, 42, 42, 180, 0, 17, 17, 0, 254, 46]
abbrev dktX2_setKey_8 : List UInt8 := dkwX2_setKey_8 ++ dktX2_setKey_9
def dkwX2_setKey_7 : List UInt8 := [79, 132, 4, 1, 167, 255, 191, 42, 3, 3, 42, 180, 0, 30, 182, 0, 99, 42, 42, 180, 0, 30, 16, 16]
abbrev dktX2_setKey_7 : List UInt8 := dkwX2_setKey_7 ++ dktX2_setKey_8
def dkwX2_setKey_6 : List UInt8 := [29, 28, 161, 0, 5, 3, 62, 132, 6, 1, 167, 255, 222, 42, 180, 0, 30, 21, 4, 92, 46, 21, 5, 130]
abbrev dktX2_setKey_6 : List UInt8 := dkwX2_setKey_6 ++ dktX2_setKey_7
def dkwX2_setKey_5 : List UInt8 := [21, 6, 7, 162, 0, 34, 21, 5, 16, 8, 120, 43, 29, 132, 3, 1, 51, 17, 0, 255, 126, 128, 54, 5]
abbrev dktX2_setKey_5 : List UInt8 := dkwX2_setKey_5 ++ dktX2_setKey_6
def dkwX2_setKey_4 : List UInt8 := [184, 0, 81, 43, 190, 61, 3, 62, 3, 54, 4, 21, 4, 16, 18, 162, 0, 64, 3, 54, 5, 3, 54, 6]
abbrev dktX2_setKey_4 : List UInt8 := dkwX2_setKey_4 ++ dktX2_setKey_5
def dkwX2_setKey_3 : List UInt8 := [3, 42, 180, 0, 27, 3, 17, 1, 0, 184, 0, 81, 178, 0, 96, 3, 42, 180, 0, 30, 3, 16, 18]
abbrev dktX2_setKey_3 : List UInt8 := dkwX2_setKey_3 ++ dktX2_setKey_4
def dkwX2_setKey_2 : List UInt8 := [17, 1, 0, 184, 0, 81, 178, 0, 90, 3, 42, 180, 0, 24, 3, 17, 1, 0, 184, 0, 81, 178, 0, 93]
abbrev dktX2_setKey_2 : List UInt8 := dkwX2_setKey_2 ++ dktX2_setKey_3
def dkwX2_setKey_1 : List UInt8 := [178, 0, 78, 3, 42, 180, 0, 17, 3, 17, 1, 0, 184, 0, 81, 178, 0, 87, 3, 42, 180, 0, 21, 3]
abbrev dktX2_setKey_1 : List UInt8 := dkwX2_setKey_1 ++ dktX2_setKey_2
def dkwX2_setKey_0 : List UInt8 := [43, 190, 7, 161, 0, 10, 43, 190, 16, 56, 164, 0, 13, 187, 0, 43, 89, 18, 76, 183, 0, 47, 191]
abbrev dktX2_setKey_0 : List UInt8 := dkwX2_setKey_0 ++ dktX2_setKey_1
theorem dksX2_setKey_0 : cX2_setKey.data.toList.drop 0 = dktX2_setKey_0 := by decide +kernel
theorem dksX2_setKey_1 : cX2_setKey.data.toList.drop 23 = dktX2_setKey_1 := dk_seg dksX2_setKey_0 23 rfl rfl
theorem dksX2_setKey_2 : cX2_setKey.data.toList.drop 47 = dktX2_setKey_2 := dk_seg dksX2_setKey_1 24 rfl rfl
theorem dksX2_setKey_3 : cX2_setKey.data.toList.drop 71 = dktX2_setKey_3 := dk_seg dksX2_setKey_2 24 rfl rfl
theorem dksX2_setKey_4 : cX2_setKey.data.toList.drop 94 = dktX2_setKey_4 := dk_seg dksX2_setKey_3 23 rfl rfl
theorem dksX2_setKey_5 : cX2_setKey.data.toList.drop 118 = dktX2_setKey_5 := dk_seg dksX2_setKey_4 24 rfl rfl
theorem dksX2_setKey_6 : cX2_setKey.data.toList.drop 142 = dktX2_setKey_6 := dk_seg dksX2_setKey_5 24 rfl rfl
theorem dksX2_setKey_7 : cX2_setKey.data.toList.drop 166 = dktX2_setKey_7 := dk_seg dksX2_setKey_6 24 rfl rfl
theorem dksX2_setKey_8 : cX2_setKey.data.toList.drop 190 = dktX2_setKey_8 := dk_seg dksX2_setKey_7 24 rfl rfl
theorem dksX2_setKey_9 : cX2_setKey.data.toList.drop 214 = dktX2_setKey_9 := dk_seg dksX2_setKey_8 24 rfl rfl
theorem dksX2_setKey_10 : cX2_setKey.data.toList.drop 238 = dktX2_setKey_10 := dk_seg dksX2_setKey_9 24 rfl rfl
theorem dksX2_setKey_11 : cX2_setKey.data.toList.drop 262 = dktX2_setKey_11 := dk_seg dksX2_setKey_10 24 rfl rfl
theorem dX2_setKey_0 : decode cX2_setKey 0 = .ok (.aload_n 1, 1) := dk_43 (dk_at dksX2_setKey_0 0 rfl rfl)
theorem dX2_setKey_1 : decode cX2_setKey 1 = .ok (.arraylength, 1) := dk_190 (dk_at dksX2_setKey_0 1 rfl rfl)
theorem dX2_setKey_2 : decode cX2_setKey 2 = .ok (.iconst 4, 1) := dk_7 (dk_at dksX2_setKey_0 2 rfl rfl)
theorem dX2_setKey_3 : decode cX2_setKey 3 = .ok (.if_icmp .lt 10, 3) := dk_161 0 10 (dk_at dksX2_setKey_0 3 rfl rfl)
theorem dX2_setKey_6 : decode cX2_setKey 6 = .ok (.aload_n 1, 1) := dk_43 (dk_at dksX2_setKey_0 6 rfl rfl)
theorem dX2_setKey_7 : decode cX2_setKey 7 = .ok (.arraylength, 1) := dk_190 (dk_at dksX2_setKey_0 7 rfl rfl)
theorem dX2_setKey_8 : decode cX2_setKey 8 = .ok (.bipush 56, 2) := dk_16 56 (dk_at dksX2_setKey_0 8 rfl rfl)
theorem dX2_setKey_10 : decode cX2_setKey 10 = .ok (.if_icmp .le 13, 3) := dk_164 0 13 (dk_at dksX2_setKey_0 10 rfl rfl)
theorem dX2_setKey_13 : decode cX2_setKey 13 = .ok (.new 43, 3) := dk_187 0 43 (dk_at dksX2_setKey_0 13 rfl rfl)
theorem dX2_setKey_16 : decode cX2_setKey 16 = .ok (.dup, 1) := dk_89 (dk_at dksX2_setKey_0 16 rfl rfl)
theorem dX2_setKey_17 : decode cX2_setKey 17 = .ok (.ldc 76, 2) := dk_18 76 (dk_at dksX2_setKey_0 17 rfl rfl)
theorem dX2_setKey_19 : decode cX2_setKey 19 = .ok (.invokespecial 47, 3) := dk_183 0 47 (dk_at dksX2_setKey_0 19 rfl rfl)
theorem dX2_setKey_22 : decode cX2_setKey 22 = .ok (.athrow, 1) := dk_191 (dk_at dksX2_setKey_0 22 rfl rfl)
theorem dX2_setKey_23 : decode cX2_setKey 23 = .ok (.getstatic 78, 3) := dk_178 0 78 (dk_at dksX2_setKey_1 0 rfl rfl)
theorem dX2_setKey_26 : decode cX2_setKey 26 = .ok (.iconst 0, 1) := dk_3 (dk_at dksX2_setKey_1 3 rfl rfl)
theorem dX2_setKey_27 : decode cX2_setKey 27 = .ok (.aload_n 0, 1) := dk_42 (dk_at dksX2_setKey_1 4 rfl rfl)
theorem dX2_setKey_28 : decode cX2_setKey 28 = .ok (.getfield 17, 3) := dk_180 0 17 (dk_at dksX2_setKey_1 5 rfl rfl)
theorem dX2_setKey_31 : decode cX2_setKey 31 = .ok (.iconst 0, 1) := dk_3 (dk_at dksX2_setKey_1 8 rfl rfl)
theorem dX2_setKey_32 : decode cX2_setKey 32 = .ok (.sipush 256, 3) := dk_17 1 0 (dk_at dksX2_setKey_1 9 rfl rfl)
theorem dX2_setKey_35 : decode cX2_setKey 35 = .ok (.invokestatic 81, 3) := dk_184 0 81 (dk_at dksX2_setKey_1 12 rfl rfl)
theorem dX2_setKey_38 : decode cX2_setKey 38 = .ok (.getstatic 87, 3) := dk_178 0 87 (dk_at dksX2_setKey_1 15 rfl rfl)
theorem dX2_setKey_41 : decode cX2_setKey 41 = .ok (.iconst 0, 1) := dk_3 (dk_at dksX2_setKey_1 18 rfl rfl)
theorem dX2_setKey_42 : decode cX2_setKey 42 = .ok (.aload_n 0, 1) := dk_42 (dk_at dksX2_setKey_1 19 rfl rfl)
theorem dX2_setKey_43 : decode cX2_setKey 43 = .ok (.getfield 21, 3) := dk_180 0 21 (dk_at dksX2_setKey_1 20 rfl rfl)
theorem dX2_setKey_46 : decode cX2_setKey 46 = .ok (.iconst 0, 1) := dk_3 (dk_at dksX2_setKey_1 23 rfl rfl)
theorem dX2_setKey_47 : decode cX2_setKey 47 = .ok (.sipush 256, 3) := dk_17 1 0 (dk_at dksX2_setKey_2 0 rfl rfl)
theorem dX2_setKey_50 : decode cX2_setKey 50 = .ok (.invokestatic 81, 3) := dk_184 0 81 (dk_at dksX2_setKey_2 3 rfl rfl)
theorem dX2_setKey_53 : decode cX2_setKey 53 = .ok (.getstatic 90, 3) := dk_178 0 90 (dk_at dksX2_setKey_2 6 rfl rfl)
theorem dX2_setKey_56 : decode cX2_setKey 56 = .ok (.iconst 0, 1) := dk_3 (dk_at dksX2_setKey_2 9 rfl rfl)
theorem dX2_setKey_57 : decode cX2_setKey 57 = .ok (.aload_n 0, 1) := dk_42 (dk_at dksX2_setKey_2 10 rfl rfl)
theorem dX2_setKey_58 : decode cX2_setKey 58 = .ok (.getfield 24, 3) := dk_180 0 24 (dk_at dksX2_setKey_2 11 rfl rfl)
theorem dX2_setKey_61 : decode cX2_setKey 61 = .ok (.iconst 0, 1) := dk_3 (dk_at dksX2_setKey_2 14 rfl rfl)
theorem dX2_setKey_62 : decode cX2_setKey 62 = .ok (.sipush 256, 3) := dk_17 1 0 (dk_at dksX2_setKey_2 15 rfl rfl)
theorem dX2_setKey_65 : decode cX2_setKey 65 = .ok (.invokestatic 81, 3) := dk_184 0 81 (dk_at dksX2_setKey_2 18 rfl rfl)
theorem dX2_setKey_68 : decode cX2_setKey 68 = .ok (.getstatic 93, 3) := dk_178 0 93 (dk_at dksX2_setKey_2 21 rfl rfl)
theorem dX2_setKey_71 : decode cX2_setKey 71 = .ok (.iconst 0, 1) := dk_3 (dk_at dksX2_setKey_3 0 rfl rfl)
theorem dX2_setKey_72 : decode cX2_setKey 72 = .ok (.aload_n 0, 1) := dk_42 (dk_at dksX2_setKey_3 1 rfl rfl)
theorem dX2_setKey_73 : decode cX2_setKey 73 = .ok (.getfield 27, 3) := dk_180 0 27 (dk_at dksX2_setKey_3 2 rfl rfl)
theorem dX2_setKey_76 : decode cX2_setKey 76 = .ok (.iconst 0, 1) := dk_3 (dk_at dksX2_setKey_3 5 rfl rfl)
theorem dX2_setKey_77 : decode cX2_setKey 77 = .ok (.sipush 256, 3) := dk_17 1 0 (dk_at dksX2_setKey_3 6 rfl rfl)
theorem dX2_setKey_80 : decode cX2_setKey 80 = .ok (.invokestatic 81, 3) := dk_184 0 81 (dk_at dksX2_setKey_3 9 rfl rfl)
theorem dX2_setKey_83 : decode cX2_setKey 83 = .ok (.getstatic 96, 3) := dk_178 0 96 (dk_at dksX2_setKey_3 12 rfl rfl)
theorem dX2_setKey_86 : decode cX2_setKey 86 = .ok (.iconst 0, 1) := dk_3 (dk_at dksX2_setKey_3 15 rfl rfl)
theorem dX2_setKey_87 : decode cX2_setKey 87 = .ok (.aload_n 0, 1) := dk_42 (dk_at dksX2_setKey_3 16 rfl rfl)
theorem dX2_setKey_88 : decode cX2_setKey 88 = .ok (.getfield 30, 3) := dk_180 0 30 (dk_at dksX2_setKey_3 17 rfl rfl)
theorem dX2_setKey_91 : decode cX2_setKey 91 = .ok (.iconst 0, 1) := dk_3 (dk_at dksX2_setKey_3 20 rfl rfl)
theorem dX2_setKey_92 : decode cX2_setKey 92 = .ok (.bipush 18, 2) := dk_16 18 (dk_at dksX2_setKey_3 21 rfl rfl)
theorem dX2_setKey_94 : decode cX2_setKey 94 = .ok (.invokestatic 81, 3) := dk_184 0 81 (dk_at dksX2_setKey_4 0 rfl rfl)
theorem dX2_setKey_97 : decode cX2_setKey 97 = .ok (.aload_n 1, 1) := dk_43 (dk_at dksX2_setKey_4 3 rfl rfl)
theorem dX2_setKey_98 : decode cX2_setKey 98 = .ok (.arraylength, 1) := dk_190 (dk_at dksX2_setKey_4 4 rfl rfl)
theorem dX2_setKey_99 : decode cX2_setKey 99 = .ok (.istore_n 2, 1) := dk_61 (dk_at dksX2_setKey_4 5 rfl rfl)
theorem dX2_setKey_100 : decode cX2_setKey 100 = .ok (.iconst 0, 1) := dk_3 (dk_at dksX2_setKey_4 6 rfl rfl)
theorem dX2_setKey_101 : decode cX2_setKey 101 = .ok (.istore_n 3, 1) := dk_62 (dk_at dksX2_setKey_4 7 rfl rfl)
theorem dX2_setKey_102 : decode cX2_setKey 102 = .ok (.iconst 0, 1) := dk_3 (dk_at dksX2_setKey_4 8 rfl rfl)
theorem dX2_setKey_103 : decode cX2_setKey 103 = .ok (.istore 4, 2) := dk_54 4 (dk_at dksX2_setKey_4 9 rfl rfl)
theorem dX2_setKey_105 : decode cX2_setKey 105 = .ok (.iload 4, 2) := dk_21 4 (dk_at dksX2_setKey_4 11 rfl rfl)
theorem dX2_setKey_107 : decode cX2_setKey 107 = .ok (.bipush 18, 2) := dk_16 18 (dk_at dksX2_setKey_4 13 rfl rfl)
theorem dX2_setKey_109 : decode cX2_setKey 109 = .ok (.if_icmp .ge 64, 3) := dk_162 0 64 (dk_at dksX2_setKey_4 15 rfl rfl)
theorem dX2_setKey_112 : decode cX2_setKey 112 = .ok (.iconst 0, 1) := dk_3 (dk_at dksX2_setKey_4 18 rfl rfl)
theorem dX2_setKey_113 : decode cX2_setKey 113 = .ok (.istore 5, 2) := dk_54 5 (dk_at dksX2_setKey_4 19 rfl rfl)
theorem dX2_setKey_115 : decode cX2_setKey 115 = .ok (.iconst 0, 1) := dk_3 (dk_at dksX2_setKey_4 21 rfl rfl)
theorem dX2_setKey_116 : decode cX2_setKey 116 = .ok (.istore 6, 2) := dk_54 6 (dk_at dksX2_setKey_4 22 rfl rfl)
theorem dX2_setKey_118 : decode cX2_setKey 118 = .ok (.iload 6, 2) := dk_21 6 (dk_at dksX2_setKey_5 0 rfl rfl)
theorem dX2_setKey_120 : decode cX2_setKey 120 = .ok (.iconst 4, 1) := dk_7 (dk_at dksX2_setKey_5 2 rfl rfl)
theorem dX2_setKey_121 : decode cX2_setKey 121 = .ok (.if_icmp .ge 34, 3) := dk_162 0 34 (dk_at dksX2_setKey_5 3 rfl rfl)
theorem dX2_setKey_124 : decode cX2_setKey 124 = .ok (.iload 5, 2) := dk_21 5 (dk_at dksX2_setKey_5 6 rfl rfl)
theorem dX2_setKey_126 : decode cX2_setKey 126 = .ok (.bipush 8, 2) := dk_16 8 (dk_at dksX2_setKey_5 8 rfl rfl)
theorem dX2_setKey_128 : decode cX2_setKey 128 = .ok (.ishl, 1) := dk_120 (dk_at dksX2_setKey_5 10 rfl rfl)
theorem dX2_setKey_129 : decode cX2_setKey 129 = .ok (.aload_n 1, 1) := dk_43 (dk_at dksX2_setKey_5 11 rfl rfl)
theorem dX2_setKey_130 : decode cX2_setKey 130 = .ok (.iload_n 3, 1) := dk_29 (dk_at dksX2_setKey_5 12 rfl rfl)
theorem dX2_setKey_131 : decode cX2_setKey 131 = .ok (.iinc 3 1, 3) := dk_132 3 1 (dk_at dksX2_setKey_5 13 rfl rfl)
theorem dX2_setKey_134 : decode cX2_setKey 134 = .ok (.baload, 1) := dk_51 (dk_at dksX2_setKey_5 16 rfl rfl)
theorem dX2_setKey_135 : decode cX2_setKey 135 = .ok (.sipush 255, 3) := dk_17 0 255 (dk_at dksX2_setKey_5 17 rfl rfl)
theorem dX2_setKey_138 : decode cX2_setKey 138 = .ok (.iand, 1) := dk_126 (dk_at dksX2_setKey_5 20 rfl rfl)
theorem dX2_setKey_139 : decode cX2_setKey 139 = .ok (.ior, 1) := dk_128 (dk_at dksX2_setKey_5 21 rfl rfl)
theorem dX2_setKey_140 : decode cX2_setKey 140 = .ok (.istore 5, 2) := dk_54 5 (dk_at dksX2_setKey_5 22 rfl rfl)
theorem dX2_setKey_142 : decode cX2_setKey 142 = .ok (.iload_n 3, 1) := dk_29 (dk_at dksX2_setKey_6 0 rfl rfl)
theorem dX2_setKey_143 : decode cX2_setKey 143 = .ok (.iload_n 2, 1) := dk_28 (dk_at dksX2_setKey_6 1 rfl rfl)
theorem dX2_setKey_144 : decode cX2_setKey 144 = .ok (.if_icmp .lt 5, 3) := dk_161 0 5 (dk_at dksX2_setKey_6 2 rfl rfl)
theorem dX2_setKey_147 : decode cX2_setKey 147 = .ok (.iconst 0, 1) := dk_3 (dk_at dksX2_setKey_6 5 rfl rfl)
theorem dX2_setKey_148 : decode cX2_setKey 148 = .ok (.istore_n 3, 1) := dk_62 (dk_at dksX2_setKey_6 6 rfl rfl)
theorem dX2_setKey_149 : decode cX2_setKey 149 = .ok (.iinc 6 1, 3) := dk_132 6 1 (dk_at dksX2_setKey_6 7 rfl rfl)
theorem dX2_setKey_152 : decode cX2_setKey 152 = .ok (.goto (-34), 3) := dk_167 255 222 (dk_at dksX2_setKey_6 10 rfl rfl)
theorem dX2_setKey_155 : decode cX2_setKey 155 = .ok (.aload_n 0, 1) := dk_42 (dk_at dksX2_setKey_6 13 rfl rfl)
theorem dX2_setKey_156 : decode cX2_setKey 156 = .ok (.getfield 30, 3) := dk_180 0 30 (dk_at dksX2_setKey_6 14 rfl rfl)
theorem dX2_setKey_159 : decode cX2_setKey 159 = .ok (.iload 4, 2) := dk_21 4 (dk_at dksX2_setKey_6 17 rfl rfl)
theorem dX2_setKey_161 : decode cX2_setKey 161 = .ok (.dup2, 1) := dk_92 (dk_at dksX2_setKey_6 19 rfl rfl)
theorem dX2_setKey_162 : decode cX2_setKey 162 = .ok (.iaload, 1) := dk_46 (dk_at dksX2_setKey_6 20 rfl rfl)
theorem dX2_setKey_163 : decode cX2_setKey 163 = .ok (.iload 5, 2) := dk_21 5 (dk_at dksX2_setKey_6 21 rfl rfl)
theorem dX2_setKey_165 : decode cX2_setKey 165 = .ok (.ixor, 1) := dk_130 (dk_at dksX2_setKey_6 23 rfl rfl)
theorem dX2_setKey_166 : decode cX2_setKey 166 = .ok (.iastore, 1) := dk_79 (dk_at dksX2_setKey_7 0 rfl rfl)
theorem dX2_setKey_167 : decode cX2_setKey 167 = .ok (.iinc 4 1, 3) := dk_132 4 1 (dk_at dksX2_setKey_7 1 rfl rfl)
theorem dX2_setKey_170 : decode cX2_setKey 170 = .ok (.goto (-65), 3) := dk_167 255 191 (dk_at dksX2_setKey_7 4 rfl rfl)
theorem dX2_setKey_173 : decode cX2_setKey 173 = .ok (.aload_n 0, 1) := dk_42 (dk_at dksX2_setKey_7 7 rfl rfl)
theorem dX2_setKey_174 : decode cX2_setKey 174 = .ok (.iconst 0, 1) := dk_3 (dk_at dksX2_setKey_7 8 rfl rfl)
theorem dX2_setKey_175 : decode cX2_setKey 175 = .ok (.iconst 0, 1) := dk_3 (dk_at dksX2_setKey_7 9 rfl rfl)
theorem dX2_setKey_176 : decode cX2_setKey 176 = .ok (.aload_n 0, 1) := dk_42 (dk_at dksX2_setKey_7 10 rfl rfl)
theorem dX2_setKey_177 : decode cX2_setKey 177 = .ok (.getfield 30, 3) := dk_180 0 30 (dk_at dksX2_setKey_7 11 rfl rfl)
theorem dX2_setKey_180 : decode cX2_setKey 180 = .ok (.invokevirtual 99, 3) := dk_182 0 99 (dk_at dksX2_setKey_7 14 rfl rfl)
theorem dX2_setKey_183 : decode cX2_setKey 183 = .ok (.aload_n 0, 1) := dk_42 (dk_at dksX2_setKey_7 17 rfl rfl)
theorem dX2_setKey_184 : decode cX2_setKey 184 = .ok (.aload_n 0, 1) := dk_42 (dk_at dksX2_setKey_7 18 rfl rfl)
theorem dX2_setKey_185 : decode cX2_setKey 185 = .ok (.getfield 30, 3) := dk_180 0 30 (dk_at dksX2_setKey_7 19 rfl rfl)
theorem dX2_setKey_188 : decode cX2_setKey 188 = .ok (.bipush 16, 2) := dk_16 16 (dk_at dksX2_setKey_7 22 rfl rfl)
theorem dX2_setKey_190 : decode cX2_setKey 190 = .ok (.iaload, 1) := dk_46 (dk_at dksX2_setKey_8 0 rfl rfl)
theorem dX2_setKey_191 : decode cX2_setKey 191 = .ok (.aload_n 0, 1) := dk_42 (dk_at dksX2_setKey_8 1 rfl rfl)
theorem dX2_setKey_192 : decode cX2_setKey 192 = .ok (.getfield 30, 3) := dk_180 0 30 (dk_at dksX2_setKey_8 2 rfl rfl)
theorem dX2_setKey_195 : decode cX2_setKey 195 = .ok (.bipush 17, 2) := dk_16 17 (dk_at dksX2_setKey_8 5 rfl rfl)
theorem dX2_setKey_197 : decode cX2_setKey 197 = .ok (.iaload, 1) := dk_46 (dk_at dksX2_setKey_8 7 rfl rfl)
theorem dX2_setKey_198 : decode cX2_setKey 198 = .ok (.aload_n 0, 1) := dk_42 (dk_at dksX2_setKey_8 8 rfl rfl)
theorem dX2_setKey_199 : decode cX2_setKey 199 = .ok (.getfield 17, 3) := dk_180 0 17 (dk_at dksX2_setKey_8 9 rfl rfl)
theorem dX2_setKey_202 : decode cX2_setKey 202 = .ok (.invokevirtual 99, 3) := dk_182 0 99 (dk_at dksX2_setKey_8 12 rfl rfl)
theorem dX2_setKey_205 : decode cX2_setKey 205 = .ok (.aload_n 0, 1) := dk_42 (dk_at dksX2_setKey_8 15 rfl rfl)
theorem dX2_setKey_206 : decode cX2_setKey 206 = .ok (.aload_n 0, 1) := dk_42 (dk_at dksX2_setKey_8 16 rfl rfl)
theorem dX2_setKey_207 : decode cX2_setKey 207 = .ok (.getfield 17, 3) := dk_180 0 17 (dk_at dksX2_setKey_8 17 rfl rfl)
theorem dX2_setKey_210 : decode cX2_setKey 210 = .ok (.sipush 254, 3) := dk_17 0 254 (dk_at dksX2_setKey_8 20 rfl rfl)
theorem dX2_setKey_213 : decode cX2_setKey 213 = .ok (.iaload, 1) := dk_46 (dk_at dksX2_setKey_8 23 rfl rfl)
theorem dX2_setKey_214 : decode cX2_setKey 214 = .ok (.aload_n 0, 1) := dk_42 (dk_at dksX2_setKey_9 0 rfl rfl)
theorem dX2_setKey_215 : decode cX2_setKey 215 = .ok (.getfield 17, 3) := dk_180 0 17 (dk_at dksX2_setKey_9 1 rfl rfl)
theorem dX2_setKey_218 : decode cX2_setKey 218 = .ok (.sipush 255, 3) := dk_17 0 255 (dk_at dksX2_setKey_9 4 rfl rfl)
theorem dX2_setKey_221 : decode cX2_setKey 221 = .ok (.iaload, 1) := dk_46 (dk_at dksX2_setKey_9 7 rfl rfl)
theorem dX2_setKey_222 : decode cX2_setKey 222 = .ok (.aload_n 0, 1) := dk_42 (dk_at dksX2_setKey_9 8 rfl rfl)
theorem dX2_setKey_223 : decode cX2_setKey 223 = .ok (.getfield 21, 3) := dk_180 0 21 (dk_at dksX2_setKey_9 9 rfl rfl)
theorem dX2_setKey_226 : decode cX2_setKey 226 = .ok (.invokevirtual 99, 3) := dk_182 0 99 (dk_at dksX2_setKey_9 12 rfl rfl)
theorem dX2_setKey_229 : decode cX2_setKey 229 = .ok (.aload_n 0, 1) := dk_42 (dk_at dksX2_setKey_9 15 rfl rfl)
theorem dX2_setKey_230 : decode cX2_setKey 230 = .ok (.aload_n 0, 1) := dk_42 (dk_at dksX2_setKey_9 16 rfl rfl)
theorem dX2_setKey_231 : decode cX2_setKey 231 = .ok (.getfield 21, 3) := dk_180 0 21 (dk_at dksX2_setKey_9 17 rfl rfl)
theorem dX2_setKey_234 : decode cX2_setKey 234 = .ok (.sipush 254, 3) := dk_17 0 254 (dk_at dksX2_setKey_9 20 rfl rfl)
theorem dX2_setKey_237 : decode cX2_setKey 237 = .ok (.iaload, 1) := dk_46 (dk_at dksX2_setKey_9 23 rfl rfl)
theorem dX2_setKey_238 : decode cX2_setKey 238 = .ok (.aload_n 0, 1) := dk_42 (dk_at dksX2_setKey_10 0 rfl rfl)
theorem dX2_setKey_239 : decode cX2_setKey 239 = .ok (.getfield 21, 3) := dk_180 0 21 (dk_at dksX2_setKey_10 1 rfl rfl)
theorem dX2_setKey_242 : decode cX2_setKey 242 = .ok (.sipush 255, 3) := dk_17 0 255 (dk_at dksX2_setKey_10 4 rfl rfl)
theorem dX2_setKey_245 : decode cX2_setKey 245 = .ok (.iaload, 1) := dk_46 (dk_at dksX2_setKey_10 7 rfl rfl)
theorem dX2_setKey_246 : decode cX2_setKey 246 = .ok (.aload_n 0, 1) := dk_42 (dk_at dksX2_setKey_10 8 rfl rfl)
theorem dX2_setKey_247 : decode cX2_setKey 247 = .ok (.getfield 24, 3) := dk_180 0 24 (dk_at dksX2_setKey_10 9 rfl rfl)
theorem dX2_setKey_250 : decode cX2_setKey 250 = .ok (.invokevirtual 99, 3) := dk_182 0 99 (dk_at dksX2_setKey_10 12 rfl rfl)
theorem dX2_setKey_253 : decode cX2_setKey 253 = .ok (.aload_n 0, 1) := dk_42 (dk_at dksX2_setKey_10 15 rfl rfl)
theorem dX2_setKey_254 : decode cX2_setKey 254 = .ok (.aload_n 0, 1) := dk_42 (dk_at dksX2_setKey_10 16 rfl rfl)
theorem dX2_setKey_255 : decode cX2_setKey 255 = .ok (.getfield 24, 3) := dk_180 0 24 (dk_at dksX2_setKey_10 17 rfl rfl)
theorem dX2_setKey_258 : decode cX2_setKey 258 = .ok (.sipush 254, 3) := dk_17 0 254 (dk_at dksX2_setKey_10 20 rfl rfl)
theorem dX2_setKey_261 : decode cX2_setKey 261 = .ok (.iaload, 1) := dk_46 (dk_at dksX2_setKey_10 23 rfl rfl)
theorem dX2_setKey_262 : decode cX2_setKey 262 = .ok (.aload_n 0, 1) := dk_42 (dk_at dksX2_setKey_11 0 rfl rfl)
theorem dX2_setKey_263 : decode cX2_setKey 263 = .ok (.getfield 24, 3) := dk_180 0 24 (dk_at dksX2_setKey_11 1 rfl rfl)
theorem dX2_setKey_266 : decode cX2_setKey 266 = .ok (.sipush 255, 3) := dk_17 0 255 (dk_at dksX2_setKey_11 4 rfl rfl)
theorem dX2_setKey_269 : decode cX2_setKey 269 = .ok (.iaload, 1) := dk_46 (dk_at dksX2_setKey_11 7 rfl rfl)
theorem dX2_setKey_270 : decode cX2_setKey 270 = .ok (.aload_n 0, 1) := dk_42 (dk_at dksX2_setKey_11 8 rfl rfl)
theorem dX2_setKey_271 : decode cX2_setKey 271 = .ok (.getfield 27, 3) := dk_180 0 27 (dk_at dksX2_setKey_11 9 rfl rfl)
theorem dX2_setKey_274 : decode cX2_setKey 274 = .ok (.invokevirtual 99, 3) := dk_182 0 99 (dk_at dksX2_setKey_11 12 rfl rfl)
theorem dX2_setKey_277 : decode cX2_setKey 277 = .ok (.return_, 1) := dk_177 (dk_at dksX2_setKey_11 15 rfl rfl)
abbrev cX2_processTable : ByteArray := prog_5_method_5_code
def yX2_processTable : MethodName := ⟨RX2, "processTable", "(II[I)V"⟩
def dkwX2_processTable_4 : List UInt8 := [79, 27, 61, 45, 21, 5, 46, 60, 132, 5, 2, 167, 255, 158, 177]
abbrev dktX2_processTable_4 : List UInt8 := dkwX2_processTable_4 ++ []
def dkwX2_processTable_3 : List UInt8 := [167, 255, 212, 28, 42, 180, 0, 30, 16, 17, 46, 130, 61, 45, 21, 5, 28, 79, 45, 21, 5, 4, 96, 27]
abbrev dktX2_processTable_3 : List UInt8 := dkwX2_processTable_3 ++ dktX2_processTable_4
def dkwX2_processTable_2 : List UInt8 := [61, 27, 42, 28, 182, 0, 72, 42, 180, 0, 30, 21, 6, 4, 96, 46, 130, 130, 60, 132, 6, 2]
abbrev dktX2_processTable_2 : List UInt8 := dkwX2_processTable_2 ++ dktX2_processTable_3
def dkwX2_processTable_1 : List UInt8 := [54, 6, 21, 6, 16, 16, 162, 0, 43, 28, 42, 27, 182, 0, 72, 42, 180, 0, 30, 21, 6, 46, 130, 130]
abbrev dktX2_processTable_1 : List UInt8 := dkwX2_processTable_1 ++ dktX2_processTable_2
def dkwX2_processTable_0 : List UInt8 := [45, 190, 54, 4, 3, 54, 5, 21, 5, 21, 4, 162, 0, 97, 27, 42, 180, 0, 30, 3, 46, 130, 60, 4]
abbrev dktX2_processTable_0 : List UInt8 := dkwX2_processTable_0 ++ dktX2_processTable_1
theorem dksX2_processTable_0 : cX2_processTable.data.toList.drop 0 = dktX2_processTable_0 := by decide +kernel
theorem dksX2_processTable_1 : cX2_processTable.data.toList.drop 24 = dktX2_processTable_1 := dk_seg dksX2_processTable_0 24 rfl rfl
theorem dksX2_processTable_2 : cX2_processTable.data.toList.drop 48 = dktX2_processTable_2 := dk_seg dksX2_processTable_1 24 rfl rfl
theorem dksX2_processTable_3 : cX2_processTable.data.toList.drop 70 = dktX2_processTable_3 := dk_seg dksX2_processTable_2 22 rfl rfl
theorem dksX2_processTable_4 : cX2_processTable.data.toList.drop 94 = dktX2_processTable_4 := dk_seg dksX2_processTable_3 24 rfl rfl
theorem dX2_processTable_0 : decode cX2_processTable 0 = .ok (.aload_n 3, 1) := dk_45 (dk_at dksX2_processTable_0 0 rfl rfl)
theorem dX2_processTable_1 : decode cX2_processTable 1 = .ok (.arraylength, 1) := dk_190 (dk_at dksX2_processTable_0 1 rfl rfl)
theorem dX2_processTable_2 : decode cX2_processTable 2 = .ok (.istore 4, 2) := dk_54 4 (dk_at dksX2_processTable_0 2 rfl rfl)
theorem dX2_processTable_4 : decode cX2_processTable 4 = .ok (.iconst 0, 1) := dk_3 (dk_at dksX2_processTable_0 4 rfl rfl)
theorem dX2_processTable_5 : decode cX2_processTable 5 = .ok (.istore 5, 2) := dk_54 5 (dk_at dksX2_processTable_0 5 rfl rfl)
theorem dX2_processTable_7 : decode cX2_processTable 7 = .ok (.iload 5, 2) := dk_21 5 (dk_at dksX2_processTable_0 7 rfl rfl)
theorem dX2_processTable_9 : decode cX2_processTable 9 = .ok (.iload 4, 2) := dk_21 4 (dk_at dksX2_processTable_0 9 rfl rfl)
theorem dX2_processTable_11 : decode cX2_processTable 11 = .ok (.if_icmp .ge 97, 3) := dk_162 0 97 (dk_at dksX2_processTable_0 11 rfl rfl)
theorem dX2_processTable_14 : decode cX2_processTable 14 = .ok (.iload_n 1, 1) := dk_27 (dk_at dksX2_processTable_0 14 rfl rfl)
theorem dX2_processTable_15 : decode cX2_processTable 15 = .ok (.aload_n 0, 1) := dk_42 (dk_at dksX2_processTable_0 15 rfl rfl)
theorem dX2_processTable_16 : decode cX2_processTable 16 = .ok (.getfield 30, 3) := dk_180 0 30 (dk_at dksX2_processTable_0 16 rfl rfl)
theorem dX2_processTable_19 : decode cX2_processTable 19 = .ok (.iconst 0, 1) := dk_3 (dk_at dksX2_processTable_0 19 rfl rfl)
theorem dX2_processTable_20 : decode cX2_processTable 20 = .ok (.iaload, 1) := dk_46 (dk_at dksX2_processTable_0 20 rfl rfl)
theorem dX2_processTable_21 : decode cX2_processTable 21 = .ok (.ixor, 1) := dk_130 (dk_at dksX2_processTable_0 21 rfl rfl)
theorem dX2_processTable_22 : decode cX2_processTable 22 = .ok (.istore_n 1, 1) := dk_60 (dk_at dksX2_processTable_0 22 rfl rfl)
theorem dX2_processTable_23 : decode cX2_processTable 23 = .ok (.iconst 1, 1) := dk_4 (dk_at dksX2_processTable_0 23 rfl rfl)
theorem dX2_processTable_24 : decode cX2_processTable 24 = .ok (.istore 6, 2) := dk_54 6 (dk_at dksX2_processTable_1 0 rfl rfl)
theorem dX2_processTable_26 : decode cX2_processTable 26 = .ok (.iload 6, 2) := dk_21 6 (dk_at dksX2_processTable_1 2 rfl rfl)
theorem dX2_processTable_28 : decode cX2_processTable 28 = .ok (.bipush 16, 2) := dk_16 16 (dk_at dksX2_processTable_1 4 rfl rfl)
theorem dX2_processTable_30 : decode cX2_processTable 30 = .ok (.if_icmp .ge 43, 3) := dk_162 0 43 (dk_at dksX2_processTable_1 6 rfl rfl)
theorem dX2_processTable_33 : decode cX2_processTable 33 = .ok (.iload_n 2, 1) := dk_28 (dk_at dksX2_processTable_1 9 rfl rfl)
theorem dX2_processTable_34 : decode cX2_processTable 34 = .ok (.aload_n 0, 1) := dk_42 (dk_at dksX2_processTable_1 10 rfl rfl)
theorem dX2_processTable_35 : decode cX2_processTable 35 = .ok (.iload_n 1, 1) := dk_27 (dk_at dksX2_processTable_1 11 rfl rfl)
theorem dX2_processTable_36 : decode cX2_processTable 36 = .ok (.invokevirtual 72, 3) := dk_182 0 72 (dk_at dksX2_processTable_1 12 rfl rfl)
theorem dX2_processTable_39 : decode cX2_processTable 39 = .ok (.aload_n 0, 1) := dk_42 (dk_at dksX2_processTable_1 15 rfl rfl)
theorem dX2_processTable_40 : decode cX2_processTable 40 = .ok (.getfield 30, 3) := dk_180 0 30 (dk_at dksX2_processTable_1 16 rfl rfl)
theorem dX2_processTable_43 : decode cX2_processTable 43 = .ok (.iload 6, 2) := dk_21 6 (dk_at dksX2_processTable_1 19 rfl rfl)
theorem dX2_processTable_45 : decode cX2_processTable 45 = .ok (.iaload, 1) := dk_46 (dk_at dksX2_processTable_1 21 rfl rfl)
theorem dX2_processTable_46 : decode cX2_processTable 46 = .ok (.ixor, 1) := dk_130 (dk_at dksX2_processTable_1 22 rfl rfl)
theorem dX2_processTable_47 : decode cX2_processTable 47 = .ok (.ixor, 1) := dk_130 (dk_at dksX2_processTable_1 23 rfl rfl)
theorem dX2_processTable_48 : decode cX2_processTable 48 = .ok (.istore_n 2, 1) := dk_61 (dk_at dksX2_processTable_2 0 rfl rfl)
theorem dX2_processTable_49 : decode cX2_processTable 49 = .ok (.iload_n 1, 1) := dk_27 (dk_at dksX2_processTable_2 1 rfl rfl)
theorem dX2_processTable_50 : decode cX2_processTable 50 = .ok (.aload_n 0, 1) := dk_42 (dk_at dksX2_processTable_2 2 rfl rfl)
theorem dX2_processTable_51 : decode cX2_processTable 51 = .ok (.iload_n 2, 1) := dk_28 (dk_at dksX2_processTable_2 3 rfl rfl)
theorem dX2_processTable_52 : decode cX2_processTable 52 = .ok (.invokevirtual 72, 3) := dk_182 0 72 (dk_at dksX2_processTable_2 4 rfl rfl)
theorem dX2_processTable_55 : decode cX2_processTable 55 = .ok (.aload_n 0, 1) := dk_42 (dk_at dksX2_processTable_2 7 rfl rfl)
theorem dX2_processTable_56 : decode cX2_processTable 56 = .ok (.getfield 30, 3) := dk_180 0 30 (dk_at dksX2_processTable_2 8 rfl rfl)
theorem dX2_processTable_59 : decode cX2_processTable 59 = .ok (.iload 6, 2) := dk_21 6 (dk_at dksX2_processTable_2 11 rfl rfl)
theorem dX2_processTable_61 : decode cX2_processTable 61 = .ok (.iconst 1, 1) := dk_4 (dk_at dksX2_processTable_2 13 rfl rfl)
theorem dX2_processTable_62 : decode cX2_processTable 62 = .ok (.iadd, 1) := dk_96 (dk_at dksX2_processTable_2 14 rfl rfl)
theorem dX2_processTable_63 : decode cX2_processTable 63 = .ok (.iaload, 1) := dk_46 (dk_at dksX2_processTable_2 15 rfl rfl)
theorem dX2_processTable_64 : decode cX2_processTable 64 = .ok (.ixor, 1) := dk_130 (dk_at dksX2_processTable_2 16 rfl rfl)
theorem dX2_processTable_65 : decode cX2_processTable 65 = .ok (.ixor, 1) := dk_130 (dk_at dksX2_processTable_2 17 rfl rfl)
theorem dX2_processTable_66 : decode cX2_processTable 66 = .ok (.istore_n 1, 1) := dk_60 (dk_at dksX2_processTable_2 18 rfl rfl)
theorem dX2_processTable_67 : decode cX2_processTable 67 = .ok (.iinc 6 2, 3) := dk_132 6 2 (dk_at dksX2_processTable_2 19 rfl rfl)
theorem dX2_processTable_70 : decode cX2_processTable 70 = .ok (.goto (-44), 3) := dk_167 255 212 (dk_at dksX2_processTable_3 0 rfl rfl)
theorem dX2_processTable_73 : decode cX2_processTable 73 = .ok (.iload_n 2, 1) := dk_28 (dk_at dksX2_processTable_3 3 rfl rfl)
theorem dX2_processTable_74 : decode cX2_processTable 74 = .ok (.aload_n 0, 1) := dk_42 (dk_at dksX2_processTable_3 4 rfl rfl)
theorem dX2_processTable_75 : decode cX2_processTable 75 = .ok (.getfield 30, 3) := dk_180 0 30 (dk_at dksX2_processTable_3 5 rfl rfl)
theorem dX2_processTable_78 : decode cX2_processTable 78 = .ok (.bipush 17, 2) := dk_16 17 (dk_at dksX2_processTable_3 8 rfl rfl)
theorem dX2_processTable_80 : decode cX2_processTable 80 = .ok (.iaload, 1) := dk_46 (dk_at dksX2_processTable_3 10 rfl rfl)
theorem dX2_processTable_81 : decode cX2_processTable 81 = .ok (.ixor, 1) := dk_130 (dk_at dksX2_processTable_3 11 rfl rfl)
theorem dX2_processTable_82 : decode cX2_processTable 82 = .ok (.istore_n 2, 1) := dk_61 (dk_at dksX2_processTable_3 12 rfl rfl)
theorem dX2_processTable_83 : decode cX2_processTable 83 = .ok (.aload_n 3, 1) := dk_45 (dk_at dksX2_processTable_3 13 rfl rfl)
theorem dX2_processTable_84 : decode cX2_processTable 84 = .ok (.iload 5, 2) := dk_21 5 (dk_at dksX2_processTable_3 14 rfl rfl)
theorem dX2_processTable_86 : decode cX2_processTable 86 = .ok (.iload_n 2, 1) := dk_28 (dk_at dksX2_processTable_3 16 rfl rfl)
theorem dX2_processTable_87 : decode cX2_processTable 87 = .ok (.iastore, 1) := dk_79 (dk_at dksX2_processTable_3 17 rfl rfl)
theorem dX2_processTable_88 : decode cX2_processTable 88 = .ok (.aload_n 3, 1) := dk_45 (dk_at dksX2_processTable_3 18 rfl rfl)
theorem dX2_processTable_89 : decode cX2_processTable 89 = .ok (.iload 5, 2) := dk_21 5 (dk_at dksX2_processTable_3 19 rfl rfl)
theorem dX2_processTable_91 : decode cX2_processTable 91 = .ok (.iconst 1, 1) := dk_4 (dk_at dksX2_processTable_3 21 rfl rfl)
theorem dX2_processTable_92 : decode cX2_processTable 92 = .ok (.iadd, 1) := dk_96 (dk_at dksX2_processTable_3 22 rfl rfl)
theorem dX2_processTable_93 : decode cX2_processTable 93 = .ok (.iload_n 1, 1) := dk_27 (dk_at dksX2_processTable_3 23 rfl rfl)
theorem dX2_processTable_94 : decode cX2_processTable 94 = .ok (.iastore, 1) := dk_79 (dk_at dksX2_processTable_4 0 rfl rfl)
theorem dX2_processTable_95 : decode cX2_processTable 95 = .ok (.iload_n 1, 1) := dk_27 (dk_at dksX2_processTable_4 1 rfl rfl)
theorem dX2_processTable_96 : decode cX2_processTable 96 = .ok (.istore_n 2, 1) := dk_61 (dk_at dksX2_processTable_4 2 rfl rfl)
theorem dX2_processTable_97 : decode cX2_processTable 97 = .ok (.aload_n 3, 1) := dk_45 (dk_at dksX2_processTable_4 3 rfl rfl)
theorem dX2_processTable_98 : decode cX2_processTable 98 = .ok (.iload 5, 2) := dk_21 5 (dk_at dksX2_processTable_4 4 rfl rfl)
theorem dX2_processTable_100 : decode cX2_processTable 100 = .ok (.iaload, 1) := dk_46 (dk_at dksX2_processTable_4 6 rfl rfl)
theorem dX2_processTable_101 : decode cX2_processTable 101 = .ok (.istore_n 1, 1) := dk_60 (dk_at dksX2_processTable_4 7 rfl rfl)
theorem dX2_processTable_102 : decode cX2_processTable 102 = .ok (.iinc 5 2, 3) := dk_132 5 2 (dk_at dksX2_processTable_4 8 rfl rfl)
theorem dX2_processTable_105 : decode cX2_processTable 105 = .ok (.goto (-98), 3) := dk_167 255 158 (dk_at dksX2_processTable_4 11 rfl rfl)
theorem dX2_processTable_108 : decode cX2_processTable 108 = .ok (.return_, 1) := dk_177 (dk_at dksX2_processTable_4 14 rfl rfl)
abbrev cX2_F : ByteArray := prog_5_method_4_code
def yX2_F : MethodName := ⟨RX2, "F", "(I)I"⟩
def dkwX2_F_2 : List UInt8 := [172]
abbrev dktX2_F_2 : List UInt8 := dkwX2_F_2 ++ []
def dkwX2_F_1 : List UInt8 := [180, 0, 24, 27, 16, 8, 124, 17, 0, 255, 126, 46, 130, 42, 180, 0, 27, 27, 17, 0, 255, 126, 46, 96]
abbrev dktX2_F_1 : List UInt8 := dkwX2_F_1 ++ dktX2_F_2
def dkwX2_F_0 : List UInt8 := [42, 180, 0, 17, 27, 16, 24, 124, 46, 42, 180, 0, 21, 27, 16, 16, 124, 17, 0, 255, 126, 46, 96, 42]
abbrev dktX2_F_0 : List UInt8 := dkwX2_F_0 ++ dktX2_F_1
theorem dksX2_F_0 : cX2_F.data.toList.drop 0 = dktX2_F_0 := by decide +kernel
theorem dksX2_F_1 : cX2_F.data.toList.drop 24 = dktX2_F_1 := dk_seg dksX2_F_0 24 rfl rfl
theorem dksX2_F_2 : cX2_F.data.toList.drop 48 = dktX2_F_2 := dk_seg dksX2_F_1 24 rfl rfl
theorem dX2_F_0 : decode cX2_F 0 = .ok (.aload_n 0, 1) := dk_42 (dk_at dksX2_F_0 0 rfl rfl)
theorem dX2_F_1 : decode cX2_F 1 = .ok (.getfield 17, 3) := dk_180 0 17 (dk_at dksX2_F_0 1 rfl rfl)
theorem dX2_F_4 : decode cX2_F 4 = .ok (.iload_n 1, 1) := dk_27 (dk_at dksX2_F_0 4 rfl rfl)
theorem dX2_F_5 : decode cX2_F 5 = .ok (.bipush 24, 2) := dk_16 24 (dk_at dksX2_F_0 5 rfl rfl)
theorem dX2_F_7 : decode cX2_F 7 = .ok (.iushr, 1) := dk_124 (dk_at dksX2_F_0 7 rfl rfl)
theorem dX2_F_8 : decode cX2_F 8 = .ok (.iaload, 1) := dk_46 (dk_at dksX2_F_0 8 rfl rfl)
theorem dX2_F_9 : decode cX2_F 9 = .ok (.aload_n 0, 1) := dk_42 (dk_at dksX2_F_0 9 rfl rfl)
theorem dX2_F_10 : decode cX2_F 10 = .ok (.getfield 21, 3) := dk_180 0 21 (dk_at dksX2_F_0 10 rfl rfl)
theorem dX2_F_13 : decode cX2_F 13 = .ok (.iload_n 1, 1) := dk_27 (dk_at dksX2_F_0 13 rfl rfl)
theorem dX2_F_14 : decode cX2_F 14 = .ok (.bipush 16, 2) := dk_16 16 (dk_at dksX2_F_0 14 rfl rfl)
theorem dX2_F_16 : decode cX2_F 16 = .ok (.iushr, 1) := dk_124 (dk_at dksX2_F_0 16 rfl rfl)
theorem dX2_F_17 : decode cX2_F 17 = .ok (.sipush 255, 3) := dk_17 0 255 (dk_at dksX2_F_0 17 rfl rfl)
theorem dX2_F_20 : decode cX2_F 20 = .ok (.iand, 1) := dk_126 (dk_at dksX2_F_0 20 rfl rfl)
theorem dX2_F_21 : decode cX2_F 21 = .ok (.iaload, 1) := dk_46 (dk_at dksX2_F_0 21 rfl rfl)
theorem dX2_F_22 : decode cX2_F 22 = .ok (.iadd, 1) := dk_96 (dk_at dksX2_F_0 22 rfl rfl)
theorem dX2_F_23 : decode cX2_F 23 = .ok (.aload_n 0, 1) := dk_42 (dk_at dksX2_F_0 23 rfl rfl)
theorem dX2_F_24 : decode cX2_F 24 = .ok (.getfield 24, 3) := dk_180 0 24 (dk_at dksX2_F_1 0 rfl rfl)
theorem dX2_F_27 : decode cX2_F 27 = .ok (.iload_n 1, 1) := dk_27 (dk_at dksX2_F_1 3 rfl rfl)
theorem dX2_F_28 : decode cX2_F 28 = .ok (.bipush 8, 2) := dk_16 8 (dk_at dksX2_F_1 4 rfl rfl)
theorem dX2_F_30 : decode cX2_F 30 = .ok (.iushr, 1) := dk_124 (dk_at dksX2_F_1 6 rfl rfl)
theorem dX2_F_31 : decode cX2_F 31 = .ok (.sipush 255, 3) := dk_17 0 255 (dk_at dksX2_F_1 7 rfl rfl)
theorem dX2_F_34 : decode cX2_F 34 = .ok (.iand, 1) := dk_126 (dk_at dksX2_F_1 10 rfl rfl)
theorem dX2_F_35 : decode cX2_F 35 = .ok (.iaload, 1) := dk_46 (dk_at dksX2_F_1 11 rfl rfl)
theorem dX2_F_36 : decode cX2_F 36 = .ok (.ixor, 1) := dk_130 (dk_at dksX2_F_1 12 rfl rfl)
theorem dX2_F_37 : decode cX2_F 37 = .ok (.aload_n 0, 1) := dk_42 (dk_at dksX2_F_1 13 rfl rfl)
theorem dX2_F_38 : decode cX2_F 38 = .ok (.getfield 27, 3) := dk_180 0 27 (dk_at dksX2_F_1 14 rfl rfl)
theorem dX2_F_41 : decode cX2_F 41 = .ok (.iload_n 1, 1) := dk_27 (dk_at dksX2_F_1 17 rfl rfl)
theorem dX2_F_42 : decode cX2_F 42 = .ok (.sipush 255, 3) := dk_17 0 255 (dk_at dksX2_F_1 18 rfl rfl)
theorem dX2_F_45 : decode cX2_F 45 = .ok (.iand, 1) := dk_126 (dk_at dksX2_F_1 21 rfl rfl)
theorem dX2_F_46 : decode cX2_F 46 = .ok (.iaload, 1) := dk_46 (dk_at dksX2_F_1 22 rfl rfl)
theorem dX2_F_47 : decode cX2_F 47 = .ok (.iadd, 1) := dk_96 (dk_at dksX2_F_1 23 rfl rfl)
theorem dX2_F_48 : decode cX2_F 48 = .ok (.ireturn, 1) := dk_172 (dk_at dksX2_F_2 0 rfl rfl)
abbrev cX2_processBlock : ByteArray := prog_5_method_3_code
def yX2_processBlock : MethodName := ⟨RX2, "processBlock", "([BI[BI)I"⟩
def dkwX2_processBlock_3 : List UInt8 := [182, 0, 65, 167, 0, 12, 42, 43, 28, 45, 21, 4, 182, 0, 69, 16, 8, 172]
abbrev dktX2_processBlock_3 : List UInt8 := dkwX2_processBlock_3 ++ []
def dkwX2_processBlock_2 : List UInt8 := [187, 0, 60, 89, 18, 62, 183, 0, 64, 191, 42, 180, 0, 9, 153, 0, 15, 42, 43, 28, 45, 21, 4]
abbrev dktX2_processBlock_2 : List UInt8 := dkwX2_processBlock_2 ++ dktX2_processBlock_3
def dkwX2_processBlock_1 : List UInt8 := [164, 0, 13, 187, 0, 55, 89, 18, 57, 183, 0, 59, 191, 21, 4, 16, 8, 96, 45, 190, 164, 0, 13]
abbrev dktX2_processBlock_1 : List UInt8 := dkwX2_processBlock_1 ++ dktX2_processBlock_2
def dkwX2_processBlock_0 : List UInt8 := [42, 180, 0, 13, 199, 0, 13, 187, 0, 50, 89, 18, 52, 183, 0, 54, 191, 28, 16, 8, 96, 43, 190]
abbrev dktX2_processBlock_0 : List UInt8 := dkwX2_processBlock_0 ++ dktX2_processBlock_1
theorem dksX2_processBlock_0 : cX2_processBlock.data.toList.drop 0 = dktX2_processBlock_0 := by decide +kernel
theorem dksX2_processBlock_1 : cX2_processBlock.data.toList.drop 23 = dktX2_processBlock_1 := dk_seg dksX2_processBlock_0 23 rfl rfl
theorem dksX2_processBlock_2 : cX2_processBlock.data.toList.drop 46 = dktX2_processBlock_2 := dk_seg dksX2_processBlock_1 23 rfl rfl
theorem dksX2_processBlock_3 : cX2_processBlock.data.toList.drop 69 = dktX2_processBlock_3 := dk_seg dksX2_processBlock_2 23 rfl rfl
theorem dX2_processBlock_0 : decode cX2_processBlock 0 = .ok (.aload_n 0, 1) := dk_42 (dk_at dksX2_processBlock_0 0 rfl rfl)
theorem dX2_processBlock_1 : decode cX2_processBlock 1 = .ok (.getfield 13, 3) := dk_180 0 13 (dk_at dksX2_processBlock_0 1 rfl rfl)
theorem dX2_processBlock_4 : decode cX2_processBlock 4 = .ok (.ifnonnull 13, 3) := dk_199 0 13 (dk_at dksX2_processBlock_0 4 rfl rfl)
theorem dX2_processBlock_7 : decode cX2_processBlock 7 = .ok (.new 50, 3) := dk_187 0 50 (dk_at dksX2_processBlock_0 7 rfl rfl)
theorem dX2_processBlock_10 : decode cX2_processBlock 10 = .ok (.dup, 1) := dk_89 (dk_at dksX2_processBlock_0 10 rfl rfl)
theorem dX2_processBlock_11 : decode cX2_processBlock 11 = .ok (.ldc 52, 2) := dk_18 52 (dk_at dksX2_processBlock_0 11 rfl rfl)
theorem dX2_processBlock_13 : decode cX2_processBlock 13 = .ok (.invokespecial 54, 3) := dk_183 0 54 (dk_at dksX2_processBlock_0 13 rfl rfl)
theorem dX2_processBlock_16 : decode cX2_processBlock 16 = .ok (.athrow, 1) := dk_191 (dk_at dksX2_processBlock_0 16 rfl rfl)
theorem dX2_processBlock_17 : decode cX2_processBlock 17 = .ok (.iload_n 2, 1) := dk_28 (dk_at dksX2_processBlock_0 17 rfl rfl)
theorem dX2_processBlock_18 : decode cX2_processBlock 18 = .ok (.bipush 8, 2) := dk_16 8 (dk_at dksX2_processBlock_0 18 rfl rfl)
theorem dX2_processBlock_20 : decode cX2_processBlock 20 = .ok (.iadd, 1) := dk_96 (dk_at dksX2_processBlock_0 20 rfl rfl)
theorem dX2_processBlock_21 : decode cX2_processBlock 21 = .ok (.aload_n 1, 1) := dk_43 (dk_at dksX2_processBlock_0 21 rfl rfl)
theorem dX2_processBlock_22 : decode cX2_processBlock 22 = .ok (.arraylength, 1) := dk_190 (dk_at dksX2_processBlock_0 22 rfl rfl)
theorem dX2_processBlock_23 : decode cX2_processBlock 23 = .ok (.if_icmp .le 13, 3) := dk_164 0 13 (dk_at dksX2_processBlock_1 0 rfl rfl)
theorem dX2_processBlock_26 : decode cX2_processBlock 26 = .ok (.new 55, 3) := dk_187 0 55 (dk_at dksX2_processBlock_1 3 rfl rfl)
theorem dX2_processBlock_29 : decode cX2_processBlock 29 = .ok (.dup, 1) := dk_89 (dk_at dksX2_processBlock_1 6 rfl rfl)
theorem dX2_processBlock_30 : decode cX2_processBlock 30 = .ok (.ldc 57, 2) := dk_18 57 (dk_at dksX2_processBlock_1 7 rfl rfl)
theorem dX2_processBlock_32 : decode cX2_processBlock 32 = .ok (.invokespecial 59, 3) := dk_183 0 59 (dk_at dksX2_processBlock_1 9 rfl rfl)
theorem dX2_processBlock_35 : decode cX2_processBlock 35 = .ok (.athrow, 1) := dk_191 (dk_at dksX2_processBlock_1 12 rfl rfl)
theorem dX2_processBlock_36 : decode cX2_processBlock 36 = .ok (.iload 4, 2) := dk_21 4 (dk_at dksX2_processBlock_1 13 rfl rfl)
theorem dX2_processBlock_38 : decode cX2_processBlock 38 = .ok (.bipush 8, 2) := dk_16 8 (dk_at dksX2_processBlock_1 15 rfl rfl)
theorem dX2_processBlock_40 : decode cX2_processBlock 40 = .ok (.iadd, 1) := dk_96 (dk_at dksX2_processBlock_1 17 rfl rfl)
theorem dX2_processBlock_41 : decode cX2_processBlock 41 = .ok (.aload_n 3, 1) := dk_45 (dk_at dksX2_processBlock_1 18 rfl rfl)
theorem dX2_processBlock_42 : decode cX2_processBlock 42 = .ok (.arraylength, 1) := dk_190 (dk_at dksX2_processBlock_1 19 rfl rfl)
theorem dX2_processBlock_43 : decode cX2_processBlock 43 = .ok (.if_icmp .le 13, 3) := dk_164 0 13 (dk_at dksX2_processBlock_1 20 rfl rfl)
theorem dX2_processBlock_46 : decode cX2_processBlock 46 = .ok (.new 60, 3) := dk_187 0 60 (dk_at dksX2_processBlock_2 0 rfl rfl)
theorem dX2_processBlock_49 : decode cX2_processBlock 49 = .ok (.dup, 1) := dk_89 (dk_at dksX2_processBlock_2 3 rfl rfl)
theorem dX2_processBlock_50 : decode cX2_processBlock 50 = .ok (.ldc 62, 2) := dk_18 62 (dk_at dksX2_processBlock_2 4 rfl rfl)
theorem dX2_processBlock_52 : decode cX2_processBlock 52 = .ok (.invokespecial 64, 3) := dk_183 0 64 (dk_at dksX2_processBlock_2 6 rfl rfl)
theorem dX2_processBlock_55 : decode cX2_processBlock 55 = .ok (.athrow, 1) := dk_191 (dk_at dksX2_processBlock_2 9 rfl rfl)
theorem dX2_processBlock_56 : decode cX2_processBlock 56 = .ok (.aload_n 0, 1) := dk_42 (dk_at dksX2_processBlock_2 10 rfl rfl)
theorem dX2_processBlock_57 : decode cX2_processBlock 57 = .ok (.getfield 9, 3) := dk_180 0 9 (dk_at dksX2_processBlock_2 11 rfl rfl)
theorem dX2_processBlock_60 : decode cX2_processBlock 60 = .ok (.ifCond .eq 15, 3) := dk_153 0 15 (dk_at dksX2_processBlock_2 14 rfl rfl)
theorem dX2_processBlock_63 : decode cX2_processBlock 63 = .ok (.aload_n 0, 1) := dk_42 (dk_at dksX2_processBlock_2 17 rfl rfl)
theorem dX2_processBlock_64 : decode cX2_processBlock 64 = .ok (.aload_n 1, 1) := dk_43 (dk_at dksX2_processBlock_2 18 rfl rfl)
theorem dX2_processBlock_65 : decode cX2_processBlock 65 = .ok (.iload_n 2, 1) := dk_28 (dk_at dksX2_processBlock_2 19 rfl rfl)
theorem dX2_processBlock_66 : decode cX2_processBlock 66 = .ok (.aload_n 3, 1) := dk_45 (dk_at dksX2_processBlock_2 20 rfl rfl)
theorem dX2_processBlock_67 : decode cX2_processBlock 67 = .ok (.iload 4, 2) := dk_21 4 (dk_at dksX2_processBlock_2 21 rfl rfl)
theorem dX2_processBlock_69 : decode cX2_processBlock 69 = .ok (.invokevirtual 65, 3) := dk_182 0 65 (dk_at dksX2_processBlock_3 0 rfl rfl)
theorem dX2_processBlock_72 : decode cX2_processBlock 72 = .ok (.goto 12, 3) := dk_167 0 12 (dk_at dksX2_processBlock_3 3 rfl rfl)
theorem dX2_processBlock_75 : decode cX2_processBlock 75 = .ok (.aload_n 0, 1) := dk_42 (dk_at dksX2_processBlock_3 6 rfl rfl)
theorem dX2_processBlock_76 : decode cX2_processBlock 76 = .ok (.aload_n 1, 1) := dk_43 (dk_at dksX2_processBlock_3 7 rfl rfl)
theorem dX2_processBlock_77 : decode cX2_processBlock 77 = .ok (.iload_n 2, 1) := dk_28 (dk_at dksX2_processBlock_3 8 rfl rfl)
theorem dX2_processBlock_78 : decode cX2_processBlock 78 = .ok (.aload_n 3, 1) := dk_45 (dk_at dksX2_processBlock_3 9 rfl rfl)
theorem dX2_processBlock_79 : decode cX2_processBlock 79 = .ok (.iload 4, 2) := dk_21 4 (dk_at dksX2_processBlock_3 10 rfl rfl)
theorem dX2_processBlock_81 : decode cX2_processBlock 81 = .ok (.invokevirtual 69, 3) := dk_182 0 69 (dk_at dksX2_processBlock_3 12 rfl rfl)
theorem dX2_processBlock_84 : decode cX2_processBlock 84 = .ok (.bipush 8, 2) := dk_16 8 (dk_at dksX2_processBlock_3 15 rfl rfl)
theorem dX2_processBlock_86 : decode cX2_processBlock 86 = .ok (.ireturn, 1) := dk_172 (dk_at dksX2_processBlock_3 17 rfl rfl)
abbrev cX2_encryptBlock : ByteArray := prog_5_method_7_code
def yX2_encryptBlock : MethodName := ⟨RX2, "encryptBlock", "([BI[BI)V"⟩
def dkwX2_encryptBlock_4 : List UInt8 := [54, 6, 42, 21, 6, 45, 21, 4, 182, 0, 107, 42, 21, 5, 45, 21, 4, 7, 96, 182, 0, 107, 177]
abbrev dktX2_encryptBlock_4 : List UInt8 := dkwX2_encryptBlock_4 ++ []
def dkwX2_encryptBlock_3 : List UInt8 := [4, 96, 46, 130, 130, 54, 5, 132, 7, 2, 167, 255, 206, 21, 6, 42, 180, 0, 30, 16, 17, 46, 130]
abbrev dktX2_encryptBlock_3 : List UInt8 := dkwX2_encryptBlock_3 ++ dktX2_encryptBlock_4
def dkwX2_encryptBlock_2 : List UInt8 := [180, 0, 30, 21, 7, 46, 130, 130, 54, 6, 21, 5, 42, 21, 6, 182, 0, 72, 42, 180, 0, 30, 21, 7]
abbrev dktX2_encryptBlock_2 : List UInt8 := dkwX2_encryptBlock_2 ++ dktX2_encryptBlock_3
def dkwX2_encryptBlock_1 : List UInt8 := [3, 46, 130, 54, 5, 4, 54, 7, 21, 7, 16, 16, 162, 0, 49, 21, 6, 42, 21, 5, 182, 0, 72, 42]
abbrev dktX2_encryptBlock_1 : List UInt8 := dkwX2_encryptBlock_1 ++ dktX2_encryptBlock_2
def dkwX2_encryptBlock_0 : List UInt8 := [42, 43, 28, 182, 0, 103, 54, 5, 42, 43, 28, 7, 96, 182, 0, 103, 54, 6, 21, 5, 42, 180, 0, 30]
abbrev dktX2_encryptBlock_0 : List UInt8 := dkwX2_encryptBlock_0 ++ dktX2_encryptBlock_1
theorem dksX2_encryptBlock_0 : cX2_encryptBlock.data.toList.drop 0 = dktX2_encryptBlock_0 := by decide +kernel
theorem dksX2_encryptBlock_1 : cX2_encryptBlock.data.toList.drop 24 = dktX2_encryptBlock_1 := dk_seg dksX2_encryptBlock_0 24 rfl rfl
theorem dksX2_encryptBlock_2 : cX2_encryptBlock.data.toList.drop 48 = dktX2_encryptBlock_2 := dk_seg dksX2_encryptBlock_1 24 rfl rfl
theorem dksX2_encryptBlock_3 : cX2_encryptBlock.data.toList.drop 72 = dktX2_encryptBlock_3 := dk_seg dksX2_encryptBlock_2 24 rfl rfl
theorem dksX2_encryptBlock_4 : cX2_encryptBlock.data.toList.drop 95 = dktX2_encryptBlock_4 := dk_seg dksX2_encryptBlock_3 23 rfl rfl
theorem dX2_encryptBlock_0 : decode cX2_encryptBlock 0 = .ok (.aload_n 0, 1) := dk_42 (dk_at dksX2_encryptBlock_0 0 rfl rfl)
theorem dX2_encryptBlock_1 : decode cX2_encryptBlock 1 = .ok (.aload_n 1, 1) := dk_43 (dk_at dksX2_encryptBlock_0 1 rfl rfl)
theorem dX2_encryptBlock_2 : decode cX2_encryptBlock 2 = .ok (.iload_n 2, 1) := dk_28 (dk_at dksX2_encryptBlock_0 2 rfl rfl)
theorem dX2_encryptBlock_3 : decode cX2_encryptBlock 3 = .ok (.invokevirtual 103, 3) := dk_182 0 103 (dk_at dksX2_encryptBlock_0 3 rfl rfl)
theorem dX2_encryptBlock_6 : decode cX2_encryptBlock 6 = .ok (.istore 5, 2) := dk_54 5 (dk_at dksX2_encryptBlock_0 6 rfl rfl)
theorem dX2_encryptBlock_8 : decode cX2_encryptBlock 8 = .ok (.aload_n 0, 1) := dk_42 (dk_at dksX2_encryptBlock_0 8 rfl rfl)
theorem dX2_encryptBlock_9 : decode cX2_encryptBlock 9 = .ok (.aload_n 1, 1) := dk_43 (dk_at dksX2_encryptBlock_0 9 rfl rfl)
theorem dX2_encryptBlock_10 : decode cX2_encryptBlock 10 = .ok (.iload_n 2, 1) := dk_28 (dk_at dksX2_encryptBlock_0 10 rfl rfl)
theorem dX2_encryptBlock_11 : decode cX2_encryptBlock 11 = .ok (.iconst 4, 1) := dk_7 (dk_at dksX2_encryptBlock_0 11 rfl rfl)
theorem dX2_encryptBlock_12 : decode cX2_encryptBlock 12 = .ok (.iadd, 1) := dk_96 (dk_at dksX2_encryptBlock_0 12 rfl rfl)
theorem dX2_encryptBlock_13 : decode cX2_encryptBlock 13 = .ok (.invokevirtual 103, 3) := dk_182 0 103 (dk_at dksX2_encryptBlock_0 13 rfl rfl)
theorem dX2_encryptBlock_16 : decode cX2_encryptBlock 16 = .ok (.istore 6, 2) := dk_54 6 (dk_at dksX2_encryptBlock_0 16 rfl rfl)
theorem dX2_encryptBlock_18 : decode cX2_encryptBlock 18 = .ok (.iload 5, 2) := dk_21 5 (dk_at dksX2_encryptBlock_0 18 rfl rfl)
theorem dX2_encryptBlock_20 : decode cX2_encryptBlock 20 = .ok (.aload_n 0, 1) := dk_42 (dk_at dksX2_encryptBlock_0 20 rfl rfl)
theorem dX2_encryptBlock_21 : decode cX2_encryptBlock 21 = .ok (.getfield 30, 3) := dk_180 0 30 (dk_at dksX2_encryptBlock_0 21 rfl rfl)
theorem dX2_encryptBlock_24 : decode cX2_encryptBlock 24 = .ok (.iconst 0, 1) := dk_3 (dk_at dksX2_encryptBlock_1 0 rfl rfl)
theorem dX2_encryptBlock_25 : decode cX2_encryptBlock 25 = .ok (.iaload, 1) := dk_46 (dk_at dksX2_encryptBlock_1 1 rfl rfl)
theorem dX2_encryptBlock_26 : decode cX2_encryptBlock 26 = .ok (.ixor, 1) := dk_130 (dk_at dksX2_encryptBlock_1 2 rfl rfl)
theorem dX2_encryptBlock_27 : decode cX2_encryptBlock 27 = .ok (.istore 5, 2) := dk_54 5 (dk_at dksX2_encryptBlock_1 3 rfl rfl)
theorem dX2_encryptBlock_29 : decode cX2_encryptBlock 29 = .ok (.iconst 1, 1) := dk_4 (dk_at dksX2_encryptBlock_1 5 rfl rfl)
theorem dX2_encryptBlock_30 : decode cX2_encryptBlock 30 = .ok (.istore 7, 2) := dk_54 7 (dk_at dksX2_encryptBlock_1 6 rfl rfl)
theorem dX2_encryptBlock_32 : decode cX2_encryptBlock 32 = .ok (.iload 7, 2) := dk_21 7 (dk_at dksX2_encryptBlock_1 8 rfl rfl)
theorem dX2_encryptBlock_34 : decode cX2_encryptBlock 34 = .ok (.bipush 16, 2) := dk_16 16 (dk_at dksX2_encryptBlock_1 10 rfl rfl)
theorem dX2_encryptBlock_36 : decode cX2_encryptBlock 36 = .ok (.if_icmp .ge 49, 3) := dk_162 0 49 (dk_at dksX2_encryptBlock_1 12 rfl rfl)
theorem dX2_encryptBlock_39 : decode cX2_encryptBlock 39 = .ok (.iload 6, 2) := dk_21 6 (dk_at dksX2_encryptBlock_1 15 rfl rfl)
theorem dX2_encryptBlock_41 : decode cX2_encryptBlock 41 = .ok (.aload_n 0, 1) := dk_42 (dk_at dksX2_encryptBlock_1 17 rfl rfl)
theorem dX2_encryptBlock_42 : decode cX2_encryptBlock 42 = .ok (.iload 5, 2) := dk_21 5 (dk_at dksX2_encryptBlock_1 18 rfl rfl)
theorem dX2_encryptBlock_44 : decode cX2_encryptBlock 44 = .ok (.invokevirtual 72, 3) := dk_182 0 72 (dk_at dksX2_encryptBlock_1 20 rfl rfl)
theorem dX2_encryptBlock_47 : decode cX2_encryptBlock 47 = .ok (.aload_n 0, 1) := dk_42 (dk_at dksX2_encryptBlock_1 23 rfl rfl)
theorem dX2_encryptBlock_48 : decode cX2_encryptBlock 48 = .ok (.getfield 30, 3) := dk_180 0 30 (dk_at dksX2_encryptBlock_2 0 rfl rfl)
theorem dX2_encryptBlock_51 : decode cX2_encryptBlock 51 = .ok (.iload 7, 2) := dk_21 7 (dk_at dksX2_encryptBlock_2 3 rfl rfl)
theorem dX2_encryptBlock_53 : decode cX2_encryptBlock 53 = .ok (.iaload, 1) := dk_46 (dk_at dksX2_encryptBlock_2 5 rfl rfl)
theorem dX2_encryptBlock_54 : decode cX2_encryptBlock 54 = .ok (.ixor, 1) := dk_130 (dk_at dksX2_encryptBlock_2 6 rfl rfl)
theorem dX2_encryptBlock_55 : decode cX2_encryptBlock 55 = .ok (.ixor, 1) := dk_130 (dk_at dksX2_encryptBlock_2 7 rfl rfl)
theorem dX2_encryptBlock_56 : decode cX2_encryptBlock 56 = .ok (.istore 6, 2) := dk_54 6 (dk_at dksX2_encryptBlock_2 8 rfl rfl)
theorem dX2_encryptBlock_58 : decode cX2_encryptBlock 58 = .ok (.iload 5, 2) := dk_21 5 (dk_at dksX2_encryptBlock_2 10 rfl rfl)
theorem dX2_encryptBlock_60 : decode cX2_encryptBlock 60 = .ok (.aload_n 0, 1) := dk_42 (dk_at dksX2_encryptBlock_2 12 rfl rfl)
theorem dX2_encryptBlock_61 : decode cX2_encryptBlock 61 = .ok (.iload 6, 2) := dk_21 6 (dk_at dksX2_encryptBlock_2 13 rfl rfl)
theorem dX2_encryptBlock_63 : decode cX2_encryptBlock 63 = .ok (.invokevirtual 72, 3) := dk_182 0 72 (dk_at dksX2_encryptBlock_2 15 rfl rfl)
theorem dX2_encryptBlock_66 : decode cX2_encryptBlock 66 = .ok (.aload_n 0, 1) := dk_42 (dk_at dksX2_encryptBlock_2 18 rfl rfl)
theorem dX2_encryptBlock_67 : decode cX2_encryptBlock 67 = .ok (.getfield 30, 3) := dk_180 0 30 (dk_at dksX2_encryptBlock_2 19 rfl rfl)
theorem dX2_encryptBlock_70 : decode cX2_encryptBlock 70 = .ok (.iload 7, 2) := dk_21 7 (dk_at dksX2_encryptBlock_2 22 rfl rfl)
theorem dX2_encryptBlock_72 : decode cX2_encryptBlock 72 = .ok (.iconst 1, 1) := dk_4 (dk_at dksX2_encryptBlock_3 0 rfl rfl)
theorem dX2_encryptBlock_73 : decode cX2_encryptBlock 73 = .ok (.iadd, 1) := dk_96 (dk_at dksX2_encryptBlock_3 1 rfl rfl)
theorem dX2_encryptBlock_74 : decode cX2_encryptBlock 74 = .ok (.iaload, 1) := dk_46 (dk_at dksX2_encryptBlock_3 2 rfl rfl)
theorem dX2_encryptBlock_75 : decode cX2_encryptBlock 75 = .ok (.ixor, 1) := dk_130 (dk_at dksX2_encryptBlock_3 3 rfl rfl)
theorem dX2_encryptBlock_76 : decode cX2_encryptBlock 76 = .ok (.ixor, 1) := dk_130 (dk_at dksX2_encryptBlock_3 4 rfl rfl)
theorem dX2_encryptBlock_77 : decode cX2_encryptBlock 77 = .ok (.istore 5, 2) := dk_54 5 (dk_at dksX2_encryptBlock_3 5 rfl rfl)
theorem dX2_encryptBlock_79 : decode cX2_encryptBlock 79 = .ok (.iinc 7 2, 3) := dk_132 7 2 (dk_at dksX2_encryptBlock_3 7 rfl rfl)
theorem dX2_encryptBlock_82 : decode cX2_encryptBlock 82 = .ok (.goto (-50), 3) := dk_167 255 206 (dk_at dksX2_encryptBlock_3 10 rfl rfl)
theorem dX2_encryptBlock_85 : decode cX2_encryptBlock 85 = .ok (.iload 6, 2) := dk_21 6 (dk_at dksX2_encryptBlock_3 13 rfl rfl)
theorem dX2_encryptBlock_87 : decode cX2_encryptBlock 87 = .ok (.aload_n 0, 1) := dk_42 (dk_at dksX2_encryptBlock_3 15 rfl rfl)
theorem dX2_encryptBlock_88 : decode cX2_encryptBlock 88 = .ok (.getfield 30, 3) := dk_180 0 30 (dk_at dksX2_encryptBlock_3 16 rfl rfl)
theorem dX2_encryptBlock_91 : decode cX2_encryptBlock 91 = .ok (.bipush 17, 2) := dk_16 17 (dk_at dksX2_encryptBlock_3 19 rfl rfl)
theorem dX2_encryptBlock_93 : decode cX2_encryptBlock 93 = .ok (.iaload, 1) := dk_46 (dk_at dksX2_encryptBlock_3 21 rfl rfl)
theorem dX2_encryptBlock_94 : decode cX2_encryptBlock 94 = .ok (.ixor, 1) := dk_130 (dk_at dksX2_encryptBlock_3 22 rfl rfl)
theorem dX2_encryptBlock_95 : decode cX2_encryptBlock 95 = .ok (.istore 6, 2) := dk_54 6 (dk_at dksX2_encryptBlock_4 0 rfl rfl)
theorem dX2_encryptBlock_97 : decode cX2_encryptBlock 97 = .ok (.aload_n 0, 1) := dk_42 (dk_at dksX2_encryptBlock_4 2 rfl rfl)
theorem dX2_encryptBlock_98 : decode cX2_encryptBlock 98 = .ok (.iload 6, 2) := dk_21 6 (dk_at dksX2_encryptBlock_4 3 rfl rfl)
theorem dX2_encryptBlock_100 : decode cX2_encryptBlock 100 = .ok (.aload_n 3, 1) := dk_45 (dk_at dksX2_encryptBlock_4 5 rfl rfl)
theorem dX2_encryptBlock_101 : decode cX2_encryptBlock 101 = .ok (.iload 4, 2) := dk_21 4 (dk_at dksX2_encryptBlock_4 6 rfl rfl)
theorem dX2_encryptBlock_103 : decode cX2_encryptBlock 103 = .ok (.invokevirtual 107, 3) := dk_182 0 107 (dk_at dksX2_encryptBlock_4 8 rfl rfl)
theorem dX2_encryptBlock_106 : decode cX2_encryptBlock 106 = .ok (.aload_n 0, 1) := dk_42 (dk_at dksX2_encryptBlock_4 11 rfl rfl)
theorem dX2_encryptBlock_107 : decode cX2_encryptBlock 107 = .ok (.iload 5, 2) := dk_21 5 (dk_at dksX2_encryptBlock_4 12 rfl rfl)
theorem dX2_encryptBlock_109 : decode cX2_encryptBlock 109 = .ok (.aload_n 3, 1) := dk_45 (dk_at dksX2_encryptBlock_4 14 rfl rfl)
theorem dX2_encryptBlock_110 : decode cX2_encryptBlock 110 = .ok (.iload 4, 2) := dk_21 4 (dk_at dksX2_encryptBlock_4 15 rfl rfl)
theorem dX2_encryptBlock_112 : decode cX2_encryptBlock 112 = .ok (.iconst 4, 1) := dk_7 (dk_at dksX2_encryptBlock_4 17 rfl rfl)
theorem dX2_encryptBlock_113 : decode cX2_encryptBlock 113 = .ok (.iadd, 1) := dk_96 (dk_at dksX2_encryptBlock_4 18 rfl rfl)
theorem dX2_encryptBlock_114 : decode cX2_encryptBlock 114 = .ok (.invokevirtual 107, 3) := dk_182 0 107 (dk_at dksX2_encryptBlock_4 19 rfl rfl)
theorem dX2_encryptBlock_117 : decode cX2_encryptBlock 117 = .ok (.return_, 1) := dk_177 (dk_at dksX2_encryptBlock_4 22 rfl rfl)
abbrev cX2_BytesTo32bits : ByteArray := prog_5_method_9_code
def yX2_BytesTo32bits : MethodName := ⟨RX2, "BytesTo32bits", "([BI)I"⟩
def dkwX2_BytesTo32bits_1 : List UInt8 := [28, 5, 96, 51, 17, 0, 255, 126, 16, 8, 120, 128, 43, 28, 6, 96, 51, 17, 0, 255, 126, 128, 172]
abbrev dktX2_BytesTo32bits_1 : List UInt8 := dkwX2_BytesTo32bits_1 ++ []
def dkwX2_BytesTo32bits_0 : List UInt8 := [43, 28, 51, 17, 0, 255, 126, 16, 24, 120, 43, 28, 4, 96, 51, 17, 0, 255, 126, 16, 16, 120, 128, 43]
abbrev dktX2_BytesTo32bits_0 : List UInt8 := dkwX2_BytesTo32bits_0 ++ dktX2_BytesTo32bits_1
theorem dksX2_BytesTo32bits_0 : cX2_BytesTo32bits.data.toList.drop 0 = dktX2_BytesTo32bits_0 := by decide +kernel
theorem dksX2_BytesTo32bits_1 : cX2_BytesTo32bits.data.toList.drop 24 = dktX2_BytesTo32bits_1 := dk_seg dksX2_BytesTo32bits_0 24 rfl rfl
theorem dX2_BytesTo32bits_0 : decode cX2_BytesTo32bits 0 = .ok (.aload_n 1, 1) := dk_43 (dk_at dksX2_BytesTo32bits_0 0 rfl rfl)
theorem dX2_BytesTo32bits_1 : decode cX2_BytesTo32bits 1 = .ok (.iload_n 2, 1) := dk_28 (dk_at dksX2_BytesTo32bits_0 1 rfl rfl)
theorem dX2_BytesTo32bits_2 : decode cX2_BytesTo32bits 2 = .ok (.baload, 1) := dk_51 (dk_at dksX2_BytesTo32bits_0 2 rfl rfl)
theorem dX2_BytesTo32bits_3 : decode cX2_BytesTo32bits 3 = .ok (.sipush 255, 3) := dk_17 0 255 (dk_at dksX2_BytesTo32bits_0 3 rfl rfl)
theorem dX2_BytesTo32bits_6 : decode cX2_BytesTo32bits 6 = .ok (.iand, 1) := dk_126 (dk_at dksX2_BytesTo32bits_0 6 rfl rfl)
theorem dX2_BytesTo32bits_7 : decode cX2_BytesTo32bits 7 = .ok (.bipush 24, 2) := dk_16 24 (dk_at dksX2_BytesTo32bits_0 7 rfl rfl)
theorem dX2_BytesTo32bits_9 : decode cX2_BytesTo32bits 9 = .ok (.ishl, 1) := dk_120 (dk_at dksX2_BytesTo32bits_0 9 rfl rfl)
theorem dX2_BytesTo32bits_10 : decode cX2_BytesTo32bits 10 = .ok (.aload_n 1, 1) := dk_43 (dk_at dksX2_BytesTo32bits_0 10 rfl rfl)
theorem dX2_BytesTo32bits_11 : decode cX2_BytesTo32bits 11 = .ok (.iload_n 2, 1) := dk_28 (dk_at dksX2_BytesTo32bits_0 11 rfl rfl)
theorem dX2_BytesTo32bits_12 : decode cX2_BytesTo32bits 12 = .ok (.iconst 1, 1) := dk_4 (dk_at dksX2_BytesTo32bits_0 12 rfl rfl)
theorem dX2_BytesTo32bits_13 : decode cX2_BytesTo32bits 13 = .ok (.iadd, 1) := dk_96 (dk_at dksX2_BytesTo32bits_0 13 rfl rfl)
theorem dX2_BytesTo32bits_14 : decode cX2_BytesTo32bits 14 = .ok (.baload, 1) := dk_51 (dk_at dksX2_BytesTo32bits_0 14 rfl rfl)
theorem dX2_BytesTo32bits_15 : decode cX2_BytesTo32bits 15 = .ok (.sipush 255, 3) := dk_17 0 255 (dk_at dksX2_BytesTo32bits_0 15 rfl rfl)
theorem dX2_BytesTo32bits_18 : decode cX2_BytesTo32bits 18 = .ok (.iand, 1) := dk_126 (dk_at dksX2_BytesTo32bits_0 18 rfl rfl)
theorem dX2_BytesTo32bits_19 : decode cX2_BytesTo32bits 19 = .ok (.bipush 16, 2) := dk_16 16 (dk_at dksX2_BytesTo32bits_0 19 rfl rfl)
theorem dX2_BytesTo32bits_21 : decode cX2_BytesTo32bits 21 = .ok (.ishl, 1) := dk_120 (dk_at dksX2_BytesTo32bits_0 21 rfl rfl)
theorem dX2_BytesTo32bits_22 : decode cX2_BytesTo32bits 22 = .ok (.ior, 1) := dk_128 (dk_at dksX2_BytesTo32bits_0 22 rfl rfl)
theorem dX2_BytesTo32bits_23 : decode cX2_BytesTo32bits 23 = .ok (.aload_n 1, 1) := dk_43 (dk_at dksX2_BytesTo32bits_0 23 rfl rfl)
theorem dX2_BytesTo32bits_24 : decode cX2_BytesTo32bits 24 = .ok (.iload_n 2, 1) := dk_28 (dk_at dksX2_BytesTo32bits_1 0 rfl rfl)
theorem dX2_BytesTo32bits_25 : decode cX2_BytesTo32bits 25 = .ok (.iconst 2, 1) := dk_5 (dk_at dksX2_BytesTo32bits_1 1 rfl rfl)
theorem dX2_BytesTo32bits_26 : decode cX2_BytesTo32bits 26 = .ok (.iadd, 1) := dk_96 (dk_at dksX2_BytesTo32bits_1 2 rfl rfl)
theorem dX2_BytesTo32bits_27 : decode cX2_BytesTo32bits 27 = .ok (.baload, 1) := dk_51 (dk_at dksX2_BytesTo32bits_1 3 rfl rfl)
theorem dX2_BytesTo32bits_28 : decode cX2_BytesTo32bits 28 = .ok (.sipush 255, 3) := dk_17 0 255 (dk_at dksX2_BytesTo32bits_1 4 rfl rfl)
theorem dX2_BytesTo32bits_31 : decode cX2_BytesTo32bits 31 = .ok (.iand, 1) := dk_126 (dk_at dksX2_BytesTo32bits_1 7 rfl rfl)
theorem dX2_BytesTo32bits_32 : decode cX2_BytesTo32bits 32 = .ok (.bipush 8, 2) := dk_16 8 (dk_at dksX2_BytesTo32bits_1 8 rfl rfl)
theorem dX2_BytesTo32bits_34 : decode cX2_BytesTo32bits 34 = .ok (.ishl, 1) := dk_120 (dk_at dksX2_BytesTo32bits_1 10 rfl rfl)
theorem dX2_BytesTo32bits_35 : decode cX2_BytesTo32bits 35 = .ok (.ior, 1) := dk_128 (dk_at dksX2_BytesTo32bits_1 11 rfl rfl)
theorem dX2_BytesTo32bits_36 : decode cX2_BytesTo32bits 36 = .ok (.aload_n 1, 1) := dk_43 (dk_at dksX2_BytesTo32bits_1 12 rfl rfl)
theorem dX2_BytesTo32bits_37 : decode cX2_BytesTo32bits 37 = .ok (.iload_n 2, 1) := dk_28 (dk_at dksX2_BytesTo32bits_1 13 rfl rfl)
theorem dX2_BytesTo32bits_38 : decode cX2_BytesTo32bits 38 = .ok (.iconst 3, 1) := dk_6 (dk_at dksX2_BytesTo32bits_1 14 rfl rfl)
theorem dX2_BytesTo32bits_39 : decode cX2_BytesTo32bits 39 = .ok (.iadd, 1) := dk_96 (dk_at dksX2_BytesTo32bits_1 15 rfl rfl)
theorem dX2_BytesTo32bits_40 : decode cX2_BytesTo32bits 40 = .ok (.baload, 1) := dk_51 (dk_at dksX2_BytesTo32bits_1 16 rfl rfl)
theorem dX2_BytesTo32bits_41 : decode cX2_BytesTo32bits 41 = .ok (.sipush 255, 3) := dk_17 0 255 (dk_at dksX2_BytesTo32bits_1 17 rfl rfl)
theorem dX2_BytesTo32bits_44 : decode cX2_BytesTo32bits 44 = .ok (.iand, 1) := dk_126 (dk_at dksX2_BytesTo32bits_1 20 rfl rfl)
theorem dX2_BytesTo32bits_45 : decode cX2_BytesTo32bits 45 = .ok (.ior, 1) := dk_128 (dk_at dksX2_BytesTo32bits_1 21 rfl rfl)
theorem dX2_BytesTo32bits_46 : decode cX2_BytesTo32bits 46 = .ok (.ireturn, 1) := dk_172 (dk_at dksX2_BytesTo32bits_1 22 rfl rfl)
abbrev cX2_Bits32ToBytes : ByteArray := prog_5_method_10_code
def yX2_Bits32ToBytes : MethodName := ⟨RX2, "Bits32ToBytes", "(I[BI)V"⟩
def dkwX2_Bits32ToBytes_1 : List UInt8 := [122, 145, 84, 44, 29, 27, 16, 24, 122, 145, 84, 177]
abbrev dktX2_Bits32ToBytes_1 : List UInt8 := dkwX2_Bits32ToBytes_1 ++ []
def dkwX2_Bits32ToBytes_0 : List UInt8 := [44, 29, 6, 96, 27, 145, 84, 44, 29, 5, 96, 27, 16, 8, 122, 145, 84, 44, 29, 4, 96, 27, 16, 16]
abbrev dktX2_Bits32ToBytes_0 : List UInt8 := dkwX2_Bits32ToBytes_0 ++ dktX2_Bits32ToBytes_1
theorem dksX2_Bits32ToBytes_0 : cX2_Bits32ToBytes.data.toList.drop 0 = dktX2_Bits32ToBytes_0 := by decide +kernel
theorem dksX2_Bits32ToBytes_1 : cX2_Bits32ToBytes.data.toList.drop 24 = dktX2_Bits32ToBytes_1 := dk_seg dksX2_Bits32ToBytes_0 24 rfl rfl
theorem dX2_Bits32ToBytes_0 : decode cX2_Bits32ToBytes 0 = .ok (.aload_n 2, 1) := dk_44 (dk_at dksX2_Bits32ToBytes_0 0 rfl rfl)
theorem dX2_Bits32ToBytes_1 : decode cX2_Bits32ToBytes 1 = .ok (.iload_n 3, 1) := dk_29 (dk_at dksX2_Bits32ToBytes_0 1 rfl rfl)
theorem dX2_Bits32ToBytes_2 : decode cX2_Bits32ToBytes 2 = .ok (.iconst 3, 1) := dk_6 (dk_at dksX2_Bits32ToBytes_0 2 rfl rfl)
theorem dX2_Bits32ToBytes_3 : decode cX2_Bits32ToBytes 3 = .ok (.iadd, 1) := dk_96 (dk_at dksX2_Bits32ToBytes_0 3 rfl rfl)
theorem dX2_Bits32ToBytes_4 : decode cX2_Bits32ToBytes 4 = .ok (.iload_n 1, 1) := dk_27 (dk_at dksX2_Bits32ToBytes_0 4 rfl rfl)
theorem dX2_Bits32ToBytes_5 : decode cX2_Bits32ToBytes 5 = .ok (.i2b, 1) := dk_145 (dk_at dksX2_Bits32ToBytes_0 5 rfl rfl)
theorem dX2_Bits32ToBytes_6 : decode cX2_Bits32ToBytes 6 = .ok (.bastore, 1) := dk_84 (dk_at dksX2_Bits32ToBytes_0 6 rfl rfl)
theorem dX2_Bits32ToBytes_7 : decode cX2_Bits32ToBytes 7 = .ok (.aload_n 2, 1) := dk_44 (dk_at dksX2_Bits32ToBytes_0 7 rfl rfl)
theorem dX2_Bits32ToBytes_8 : decode cX2_Bits32ToBytes 8 = .ok (.iload_n 3, 1) := dk_29 (dk_at dksX2_Bits32ToBytes_0 8 rfl rfl)
theorem dX2_Bits32ToBytes_9 : decode cX2_Bits32ToBytes 9 = .ok (.iconst 2, 1) := dk_5 (dk_at dksX2_Bits32ToBytes_0 9 rfl rfl)
theorem dX2_Bits32ToBytes_10 : decode cX2_Bits32ToBytes 10 = .ok (.iadd, 1) := dk_96 (dk_at dksX2_Bits32ToBytes_0 10 rfl rfl)
theorem dX2_Bits32ToBytes_11 : decode cX2_Bits32ToBytes 11 = .ok (.iload_n 1, 1) := dk_27 (dk_at dksX2_Bits32ToBytes_0 11 rfl rfl)
theorem dX2_Bits32ToBytes_12 : decode cX2_Bits32ToBytes 12 = .ok (.bipush 8, 2) := dk_16 8 (dk_at dksX2_Bits32ToBytes_0 12 rfl rfl)
theorem dX2_Bits32ToBytes_14 : decode cX2_Bits32ToBytes 14 = .ok (.ishr, 1) := dk_122 (dk_at dksX2_Bits32ToBytes_0 14 rfl rfl)
theorem dX2_Bits32ToBytes_15 : decode cX2_Bits32ToBytes 15 = .ok (.i2b, 1) := dk_145 (dk_at dksX2_Bits32ToBytes_0 15 rfl rfl)
theorem dX2_Bits32ToBytes_16 : decode cX2_Bits32ToBytes 16 = .ok (.bastore, 1) := dk_84 (dk_at dksX2_Bits32ToBytes_0 16 rfl rfl)
theorem dX2_Bits32ToBytes_17 : decode cX2_Bits32ToBytes 17 = .ok (.aload_n 2, 1) := dk_44 (dk_at dksX2_Bits32ToBytes_0 17 rfl rfl)
theorem dX2_Bits32ToBytes_18 : decode cX2_Bits32ToBytes 18 = .ok (.iload_n 3, 1) := dk_29 (dk_at dksX2_Bits32ToBytes_0 18 rfl rfl)
theorem dX2_Bits32ToBytes_19 : decode cX2_Bits32ToBytes 19 = .ok (.iconst 1, 1) := dk_4 (dk_at dksX2_Bits32ToBytes_0 19 rfl rfl)
theorem dX2_Bits32ToBytes_20 : decode cX2_Bits32ToBytes 20 = .ok (.iadd, 1) := dk_96 (dk_at dksX2_Bits32ToBytes_0 20 rfl rfl)
theorem dX2_Bits32ToBytes_21 : decode cX2_Bits32ToBytes 21 = .ok (.iload_n 1, 1) := dk_27 (dk_at dksX2_Bits32ToBytes_0 21 rfl rfl)
theorem dX2_Bits32ToBytes_22 : decode cX2_Bits32ToBytes 22 = .ok (.bipush 16, 2) := dk_16 16 (dk_at dksX2_Bits32ToBytes_0 22 rfl rfl)
theorem dX2_Bits32ToBytes_24 : decode cX2_Bits32ToBytes 24 = .ok (.ishr, 1) := dk_122 (dk_at dksX2_Bits32ToBytes_1 0 rfl rfl)
theorem dX2_Bits32ToBytes_25 : decode cX2_Bits32ToBytes 25 = .ok (.i2b, 1) := dk_145 (dk_at dksX2_Bits32ToBytes_1 1 rfl rfl)
theorem dX2_Bits32ToBytes_26 : decode cX2_Bits32ToBytes 26 = .ok (.bastore, 1) := dk_84 (dk_at dksX2_Bits32ToBytes_1 2 rfl rfl)
theorem dX2_Bits32ToBytes_27 : decode cX2_Bits32ToBytes 27 = .ok (.aload_n 2, 1) := dk_44 (dk_at dksX2_Bits32ToBytes_1 3 rfl rfl)
theorem dX2_Bits32ToBytes_28 : decode cX2_Bits32ToBytes 28 = .ok (.iload_n 3, 1) := dk_29 (dk_at dksX2_Bits32ToBytes_1 4 rfl rfl)
theorem dX2_Bits32ToBytes_29 : decode cX2_Bits32ToBytes 29 = .ok (.iload_n 1, 1) := dk_27 (dk_at dksX2_Bits32ToBytes_1 5 rfl rfl)
theorem dX2_Bits32ToBytes_30 : decode cX2_Bits32ToBytes 30 = .ok (.bipush 24, 2) := dk_16 24 (dk_at dksX2_Bits32ToBytes_1 6 rfl rfl)
theorem dX2_Bits32ToBytes_32 : decode cX2_Bits32ToBytes 32 = .ok (.ishr, 1) := dk_122 (dk_at dksX2_Bits32ToBytes_1 8 rfl rfl)
theorem dX2_Bits32ToBytes_33 : decode cX2_Bits32ToBytes 33 = .ok (.i2b, 1) := dk_145 (dk_at dksX2_Bits32ToBytes_1 9 rfl rfl)
theorem dX2_Bits32ToBytes_34 : decode cX2_Bits32ToBytes 34 = .ok (.bastore, 1) := dk_84 (dk_at dksX2_Bits32ToBytes_1 10 rfl rfl)
theorem dX2_Bits32ToBytes_35 : decode cX2_Bits32ToBytes 35 = .ok (.return_, 1) := dk_177 (dk_at dksX2_Bits32ToBytes_1 11 rfl rfl)
abbrev cX2_decryptBlock : ByteArray := prog_5_method_8_code
def yX2_decryptBlock : MethodName := ⟨RX2, "decryptBlock", "([BI[BI)V"⟩
def dkwX2_decryptBlock_4 : List UInt8 := [42, 21, 6, 45, 21, 4, 182, 0, 107, 42, 21, 5, 45, 21, 4, 7, 96, 182, 0, 107, 177]
abbrev dktX2_decryptBlock_4 : List UInt8 := dkwX2_decryptBlock_4 ++ []
def dkwX2_decryptBlock_3 : List UInt8 := [4, 100, 46, 130, 130, 54, 5, 132, 7, 254, 167, 255, 208, 21, 6, 42, 180, 0, 30, 3, 46, 130, 54, 6]
abbrev dktX2_decryptBlock_3 : List UInt8 := dkwX2_decryptBlock_3 ++ dktX2_decryptBlock_4
def dkwX2_decryptBlock_2 : List UInt8 := [180, 0, 30, 21, 7, 46, 130, 130, 54, 6, 21, 5, 42, 21, 6, 182, 0, 72, 42, 180, 0, 30, 21, 7]
abbrev dktX2_decryptBlock_2 : List UInt8 := dkwX2_decryptBlock_2 ++ dktX2_decryptBlock_3
def dkwX2_decryptBlock_1 : List UInt8 := [16, 17, 46, 130, 54, 5, 16, 16, 54, 7, 21, 7, 158, 0, 49, 21, 6, 42, 21, 5, 182, 0, 72, 42]
abbrev dktX2_decryptBlock_1 : List UInt8 := dkwX2_decryptBlock_1 ++ dktX2_decryptBlock_2
def dkwX2_decryptBlock_0 : List UInt8 := [42, 43, 28, 182, 0, 103, 54, 5, 42, 43, 28, 7, 96, 182, 0, 103, 54, 6, 21, 5, 42, 180, 0, 30]
abbrev dktX2_decryptBlock_0 : List UInt8 := dkwX2_decryptBlock_0 ++ dktX2_decryptBlock_1
theorem dksX2_decryptBlock_0 : cX2_decryptBlock.data.toList.drop 0 = dktX2_decryptBlock_0 := by decide +kernel
theorem dksX2_decryptBlock_1 : cX2_decryptBlock.data.toList.drop 24 = dktX2_decryptBlock_1 := dk_seg dksX2_decryptBlock_0 24 rfl rfl
theorem dksX2_decryptBlock_2 : cX2_decryptBlock.data.toList.drop 48 = dktX2_decryptBlock_2 := dk_seg dksX2_decryptBlock_1 24 rfl rfl
theorem dksX2_decryptBlock_3 : cX2_decryptBlock.data.toList.drop 72 = dktX2_decryptBlock_3 := dk_seg dksX2_decryptBlock_2 24 rfl rfl
theorem dksX2_decryptBlock_4 : cX2_decryptBlock.data.toList.drop 96 = dktX2_decryptBlock_4 := dk_seg dksX2_decryptBlock_3 24 rfl rfl
theorem dX2_decryptBlock_0 : decode cX2_decryptBlock 0 = .ok (.aload_n 0, 1) := dk_42 (dk_at dksX2_decryptBlock_0 0 rfl rfl)
theorem dX2_decryptBlock_1 : decode cX2_decryptBlock 1 = .ok (.aload_n 1, 1) := dk_43 (dk_at dksX2_decryptBlock_0 1 rfl rfl)
theorem dX2_decryptBlock_2 : decode cX2_decryptBlock 2 = .ok (.iload_n 2, 1) := dk_28 (dk_at dksX2_decryptBlock_0 2 rfl rfl)
theorem dX2_decryptBlock_3 : decode cX2_decryptBlock 3 = .ok (.invokevirtual 103, 3) := dk_182 0 103 (dk_at dksX2_decryptBlock_0 3 rfl rfl)
theorem dX2_decryptBlock_6 : decode cX2_decryptBlock 6 = .ok (.istore 5, 2) := dk_54 5 (dk_at dksX2_decryptBlock_0 6 rfl rfl)
theorem dX2_decryptBlock_8 : decode cX2_decryptBlock 8 = .ok (.aload_n 0, 1) := dk_42 (dk_at dksX2_decryptBlock_0 8 rfl rfl)
theorem dX2_decryptBlock_9 : decode cX2_decryptBlock 9 = .ok (.aload_n 1, 1) := dk_43 (dk_at dksX2_decryptBlock_0 9 rfl rfl)
theorem dX2_decryptBlock_10 : decode cX2_decryptBlock 10 = .ok (.iload_n 2, 1) := dk_28 (dk_at dksX2_decryptBlock_0 10 rfl rfl)
theorem dX2_decryptBlock_11 : decode cX2_decryptBlock 11 = .ok (.iconst 4, 1) := dk_7 (dk_at dksX2_decryptBlock_0 11 rfl rfl)
theorem dX2_decryptBlock_12 : decode cX2_decryptBlock 12 = .ok (.iadd, 1) := dk_96 (dk_at dksX2_decryptBlock_0 12 rfl rfl)
theorem dX2_decryptBlock_13 : decode cX2_decryptBlock 13 = .ok (.invokevirtual 103, 3) := dk_182 0 103 (dk_at dksX2_decryptBlock_0 13 rfl rfl)
theorem dX2_decryptBlock_16 : decode cX2_decryptBlock 16 = .ok (.istore 6, 2) := dk_54 6 (dk_at dksX2_decryptBlock_0 16 rfl rfl)
theorem dX2_decryptBlock_18 : decode cX2_decryptBlock 18 = .ok (.iload 5, 2) := dk_21 5 (dk_at dksX2_decryptBlock_0 18 rfl rfl)
theorem dX2_decryptBlock_20 : decode cX2_decryptBlock 20 = .ok (.aload_n 0, 1) := dk_42 (dk_at dksX2_decryptBlock_0 20 rfl rfl)
theorem dX2_decryptBlock_21 : decode cX2_decryptBlock 21 = .ok (.getfield 30, 3) := dk_180 0 30 (dk_at dksX2_decryptBlock_0 21 rfl rfl)
theorem dX2_decryptBlock_24 : decode cX2_decryptBlock 24 = .ok (.bipush 17, 2) := dk_16 17 (dk_at dksX2_decryptBlock_1 0 rfl rfl)
theorem dX2_decryptBlock_26 : decode cX2_decryptBlock 26 = .ok (.iaload, 1) := dk_46 (dk_at dksX2_decryptBlock_1 2 rfl rfl)
theorem dX2_decryptBlock_27 : decode cX2_decryptBlock 27 = .ok (.ixor, 1) := dk_130 (dk_at dksX2_decryptBlock_1 3 rfl rfl)
theorem dX2_decryptBlock_28 : decode cX2_decryptBlock 28 = .ok (.istore 5, 2) := dk_54 5 (dk_at dksX2_decryptBlock_1 4 rfl rfl)
theorem dX2_decryptBlock_30 : decode cX2_decryptBlock 30 = .ok (.bipush 16, 2) := dk_16 16 (dk_at dksX2_decryptBlock_1 6 rfl rfl)
theorem dX2_decryptBlock_32 : decode cX2_decryptBlock 32 = .ok (.istore 7, 2) := dk_54 7 (dk_at dksX2_decryptBlock_1 8 rfl rfl)
theorem dX2_decryptBlock_34 : decode cX2_decryptBlock 34 = .ok (.iload 7, 2) := dk_21 7 (dk_at dksX2_decryptBlock_1 10 rfl rfl)
theorem dX2_decryptBlock_36 : decode cX2_decryptBlock 36 = .ok (.ifCond .le 49, 3) := dk_158 0 49 (dk_at dksX2_decryptBlock_1 12 rfl rfl)
theorem dX2_decryptBlock_39 : decode cX2_decryptBlock 39 = .ok (.iload 6, 2) := dk_21 6 (dk_at dksX2_decryptBlock_1 15 rfl rfl)
theorem dX2_decryptBlock_41 : decode cX2_decryptBlock 41 = .ok (.aload_n 0, 1) := dk_42 (dk_at dksX2_decryptBlock_1 17 rfl rfl)
theorem dX2_decryptBlock_42 : decode cX2_decryptBlock 42 = .ok (.iload 5, 2) := dk_21 5 (dk_at dksX2_decryptBlock_1 18 rfl rfl)
theorem dX2_decryptBlock_44 : decode cX2_decryptBlock 44 = .ok (.invokevirtual 72, 3) := dk_182 0 72 (dk_at dksX2_decryptBlock_1 20 rfl rfl)
theorem dX2_decryptBlock_47 : decode cX2_decryptBlock 47 = .ok (.aload_n 0, 1) := dk_42 (dk_at dksX2_decryptBlock_1 23 rfl rfl)
theorem dX2_decryptBlock_48 : decode cX2_decryptBlock 48 = .ok (.getfield 30, 3) := dk_180 0 30 (dk_at dksX2_decryptBlock_2 0 rfl rfl)
theorem dX2_decryptBlock_51 : decode cX2_decryptBlock 51 = .ok (.iload 7, 2) := dk_21 7 (dk_at dksX2_decryptBlock_2 3 rfl rfl)
theorem dX2_decryptBlock_53 : decode cX2_decryptBlock 53 = .ok (.iaload, 1) := dk_46 (dk_at dksX2_decryptBlock_2 5 rfl rfl)
theorem dX2_decryptBlock_54 : decode cX2_decryptBlock 54 = .ok (.ixor, 1) := dk_130 (dk_at dksX2_decryptBlock_2 6 rfl rfl)
theorem dX2_decryptBlock_55 : decode cX2_decryptBlock 55 = .ok (.ixor, 1) := dk_130 (dk_at dksX2_decryptBlock_2 7 rfl rfl)
theorem dX2_decryptBlock_56 : decode cX2_decryptBlock 56 = .ok (.istore 6, 2) := dk_54 6 (dk_at dksX2_decryptBlock_2 8 rfl rfl)
theorem dX2_decryptBlock_58 : decode cX2_decryptBlock 58 = .ok (.iload 5, 2) := dk_21 5 (dk_at dksX2_decryptBlock_2 10 rfl rfl)
theorem dX2_decryptBlock_60 : decode cX2_decryptBlock 60 = .ok (.aload_n 0, 1) := dk_42 (dk_at dksX2_decryptBlock_2 12 rfl rfl)
theorem dX2_decryptBlock_61 : decode cX2_decryptBlock 61 = .ok (.iload 6, 2) := dk_21 6 (dk_at dksX2_decryptBlock_2 13 rfl rfl)
theorem dX2_decryptBlock_63 : decode cX2_decryptBlock 63 = .ok (.invokevirtual 72, 3) := dk_182 0 72 (dk_at dksX2_decryptBlock_2 15 rfl rfl)
theorem dX2_decryptBlock_66 : decode cX2_decryptBlock 66 = .ok (.aload_n 0, 1) := dk_42 (dk_at dksX2_decryptBlock_2 18 rfl rfl)
theorem dX2_decryptBlock_67 : decode cX2_decryptBlock 67 = .ok (.getfield 30, 3) := dk_180 0 30 (dk_at dksX2_decryptBlock_2 19 rfl rfl)
theorem dX2_decryptBlock_70 : decode cX2_decryptBlock 70 = .ok (.iload 7, 2) := dk_21 7 (dk_at dksX2_decryptBlock_2 22 rfl rfl)
theorem dX2_decryptBlock_72 : decode cX2_decryptBlock 72 = .ok (.iconst 1, 1) := dk_4 (dk_at dksX2_decryptBlock_3 0 rfl rfl)
theorem dX2_decryptBlock_73 : decode cX2_decryptBlock 73 = .ok (.isub, 1) := dk_100 (dk_at dksX2_decryptBlock_3 1 rfl rfl)
theorem dX2_decryptBlock_74 : decode cX2_decryptBlock 74 = .ok (.iaload, 1) := dk_46 (dk_at dksX2_decryptBlock_3 2 rfl rfl)
theorem dX2_decryptBlock_75 : decode cX2_decryptBlock 75 = .ok (.ixor, 1) := dk_130 (dk_at dksX2_decryptBlock_3 3 rfl rfl)
theorem dX2_decryptBlock_76 : decode cX2_decryptBlock 76 = .ok (.ixor, 1) := dk_130 (dk_at dksX2_decryptBlock_3 4 rfl rfl)
theorem dX2_decryptBlock_77 : decode cX2_decryptBlock 77 = .ok (.istore 5, 2) := dk_54 5 (dk_at dksX2_decryptBlock_3 5 rfl rfl)
theorem dX2_decryptBlock_79 : decode cX2_decryptBlock 79 = .ok (.iinc 7 (-2), 3) := dk_132 7 254 (dk_at dksX2_decryptBlock_3 7 rfl rfl)
theorem dX2_decryptBlock_82 : decode cX2_decryptBlock 82 = .ok (.goto (-48), 3) := dk_167 255 208 (dk_at dksX2_decryptBlock_3 10 rfl rfl)
theorem dX2_decryptBlock_85 : decode cX2_decryptBlock 85 = .ok (.iload 6, 2) := dk_21 6 (dk_at dksX2_decryptBlock_3 13 rfl rfl)
theorem dX2_decryptBlock_87 : decode cX2_decryptBlock 87 = .ok (.aload_n 0, 1) := dk_42 (dk_at dksX2_decryptBlock_3 15 rfl rfl)
theorem dX2_decryptBlock_88 : decode cX2_decryptBlock 88 = .ok (.getfield 30, 3) := dk_180 0 30 (dk_at dksX2_decryptBlock_3 16 rfl rfl)
theorem dX2_decryptBlock_91 : decode cX2_decryptBlock 91 = .ok (.iconst 0, 1) := dk_3 (dk_at dksX2_decryptBlock_3 19 rfl rfl)
theorem dX2_decryptBlock_92 : decode cX2_decryptBlock 92 = .ok (.iaload, 1) := dk_46 (dk_at dksX2_decryptBlock_3 20 rfl rfl)
theorem dX2_decryptBlock_93 : decode cX2_decryptBlock 93 = .ok (.ixor, 1) := dk_130 (dk_at dksX2_decryptBlock_3 21 rfl rfl)
theorem dX2_decryptBlock_94 : decode cX2_decryptBlock 94 = .ok (.istore 6, 2) := dk_54 6 (dk_at dksX2_decryptBlock_3 22 rfl rfl)
theorem dX2_decryptBlock_96 : decode cX2_decryptBlock 96 = .ok (.aload_n 0, 1) := dk_42 (dk_at dksX2_decryptBlock_4 0 rfl rfl)
theorem dX2_decryptBlock_97 : decode cX2_decryptBlock 97 = .ok (.iload 6, 2) := dk_21 6 (dk_at dksX2_decryptBlock_4 1 rfl rfl)
theorem dX2_decryptBlock_99 : decode cX2_decryptBlock 99 = .ok (.aload_n 3, 1) := dk_45 (dk_at dksX2_decryptBlock_4 3 rfl rfl)
theorem dX2_decryptBlock_100 : decode cX2_decryptBlock 100 = .ok (.iload 4, 2) := dk_21 4 (dk_at dksX2_decryptBlock_4 4 rfl rfl)
theorem dX2_decryptBlock_102 : decode cX2_decryptBlock 102 = .ok (.invokevirtual 107, 3) := dk_182 0 107 (dk_at dksX2_decryptBlock_4 6 rfl rfl)
theorem dX2_decryptBlock_105 : decode cX2_decryptBlock 105 = .ok (.aload_n 0, 1) := dk_42 (dk_at dksX2_decryptBlock_4 9 rfl rfl)
theorem dX2_decryptBlock_106 : decode cX2_decryptBlock 106 = .ok (.iload 5, 2) := dk_21 5 (dk_at dksX2_decryptBlock_4 10 rfl rfl)
theorem dX2_decryptBlock_108 : decode cX2_decryptBlock 108 = .ok (.aload_n 3, 1) := dk_45 (dk_at dksX2_decryptBlock_4 12 rfl rfl)
theorem dX2_decryptBlock_109 : decode cX2_decryptBlock 109 = .ok (.iload 4, 2) := dk_21 4 (dk_at dksX2_decryptBlock_4 13 rfl rfl)
theorem dX2_decryptBlock_111 : decode cX2_decryptBlock 111 = .ok (.iconst 4, 1) := dk_7 (dk_at dksX2_decryptBlock_4 15 rfl rfl)
theorem dX2_decryptBlock_112 : decode cX2_decryptBlock 112 = .ok (.iadd, 1) := dk_96 (dk_at dksX2_decryptBlock_4 16 rfl rfl)
theorem dX2_decryptBlock_113 : decode cX2_decryptBlock 113 = .ok (.invokevirtual 107, 3) := dk_182 0 107 (dk_at dksX2_decryptBlock_4 17 rfl rfl)
theorem dX2_decryptBlock_116 : decode cX2_decryptBlock 116 = .ok (.return_, 1) := dk_177 (dk_at dksX2_decryptBlock_4 20 rfl rfl)
theorem q16 : (Jvm.Cond.initialized "BlowfishEngine") ∈ lw_all := lw_g (lw_at lw_m1 3 rfl) rfl
theorem q69 : (Jvm.Cond.instantiable "BlowfishEngine" (7 : Nat)) ∈ lw_all := lw_g (lw_at lw_m1 56 rfl) rfl
theorem q71 : (Jvm.Cond.instanceMethod ({ cls := "BlowfishEngine", name := "<init>", desc := "()V" } : Jvm.MethodName)) ∈ lw_all := lw_g (lw_at lw_m1 58 rfl) rfl
theorem q72 : (Jvm.Cond.code ({ cls := "BlowfishEngine", name := "<init>", desc := "()V" } : Jvm.MethodName) prog_5_method_1_code (1 : Nat) (Option.none : Option Jvm.ClassFile.FieldType)) ∈ lw_all := lw_g (lw_at lw_m1 59 rfl) rfl
theorem q73 : (Jvm.Cond.methodLink "BlowfishEngine" (3 : Nat) ({ cls := "java/lang/Object", name := "<init>", desc := "()V" } : Jvm.MethodName)) ∈ lw_all := lw_g (lw_at lw_m1 60 rfl) rfl
theorem q74 : (Jvm.Cond.fieldLink "BlowfishEngine" (17 : Nat) "BlowfishEngine" "S0" "[I") ∈ lw_all := lw_g (lw_at lw_m1 61 rfl) rfl
theorem q75 : (Jvm.Cond.fieldLink "BlowfishEngine" (21 : Nat) "BlowfishEngine" "S1" "[I") ∈ lw_all := lw_g (lw_at lw_m1 62 rfl) rfl
theorem q76 : (Jvm.Cond.fieldLink "BlowfishEngine" (24 : Nat) "BlowfishEngine" "S2" "[I") ∈ lw_all := lw_g (lw_at lw_m1 63 rfl) rfl
theorem q77 : (Jvm.Cond.fieldLink "BlowfishEngine" (27 : Nat) "BlowfishEngine" "S3" "[I") ∈ lw_all := lw_g (lw_at lw_m1 64 rfl) rfl
theorem q78 : (Jvm.Cond.fieldLink "BlowfishEngine" (30 : Nat) "BlowfishEngine" "P" "[I") ∈ lw_all := lw_g (lw_at lw_m1 65 rfl) rfl
theorem q79 : (Jvm.Cond.fieldLink "BlowfishEngine" (9 : Nat) "BlowfishEngine" "encrypting" "Z") ∈ lw_all := lw_g (lw_at lw_m1 66 rfl) rfl
theorem q80 : (Jvm.Cond.fieldLink "BlowfishEngine" (13 : Nat) "BlowfishEngine" "workingKey" "[B") ∈ lw_all := lw_g (lw_at lw_m1 67 rfl) rfl
theorem q81 : (Jvm.Cond.laysFinal "BlowfishEngine" "BlowfishEngine" "S0" "[I") ∈ lw_all := lw_g (lw_at lw_m1 68 rfl) rfl
theorem q82 : (Jvm.Cond.soleField "BlowfishEngine" "S0") ∈ lw_all := lw_g (lw_at lw_m1 69 rfl) rfl
theorem q83 : (Jvm.Cond.laysFinal "BlowfishEngine" "BlowfishEngine" "S1" "[I") ∈ lw_all := lw_g (lw_at lw_m1 70 rfl) rfl
theorem q84 : (Jvm.Cond.soleField "BlowfishEngine" "S1") ∈ lw_all := lw_g (lw_at lw_m1 71 rfl) rfl
theorem q85 : (Jvm.Cond.laysFinal "BlowfishEngine" "BlowfishEngine" "S2" "[I") ∈ lw_all := lw_g (lw_at lw_m1 72 rfl) rfl
theorem q86 : (Jvm.Cond.soleField "BlowfishEngine" "S2") ∈ lw_all := lw_g (lw_at lw_m1 73 rfl) rfl
theorem q87 : (Jvm.Cond.laysFinal "BlowfishEngine" "BlowfishEngine" "S3" "[I") ∈ lw_all := lw_g (lw_at lw_m1 74 rfl) rfl
theorem q88 : (Jvm.Cond.soleField "BlowfishEngine" "S3") ∈ lw_all := lw_g (lw_at lw_m1 75 rfl) rfl
theorem q89 : (Jvm.Cond.laysFinal "BlowfishEngine" "BlowfishEngine" "P" "[I") ∈ lw_all := lw_g (lw_at lw_m1 76 rfl) rfl
theorem q90 : (Jvm.Cond.soleField "BlowfishEngine" "P") ∈ lw_all := lw_g (lw_at lw_m1 77 rfl) rfl
theorem q91 : (Jvm.Cond.lays "BlowfishEngine" "BlowfishEngine" "encrypting" "Z") ∈ lw_all := lw_g (lw_at lw_m1 78 rfl) rfl
theorem q92 : (Jvm.Cond.soleField "BlowfishEngine" "encrypting") ∈ lw_all := lw_g (lw_at lw_m1 79 rfl) rfl
theorem q93 : (Jvm.Cond.lays "BlowfishEngine" "BlowfishEngine" "workingKey" "[B") ∈ lw_all := lw_g (lw_at lw_m1 80 rfl) rfl
theorem q94 : (Jvm.Cond.soleField "BlowfishEngine" "workingKey") ∈ lw_all := lw_g (lw_at lw_m1 81 rfl) rfl
theorem q95 : (Jvm.Cond.superclass "BlowfishEngine" "java/lang/Object") ∈ lw_all := lw_g (lw_at lw_m1 82 rfl) rfl
theorem q120 : (Jvm.Cond.castable "BlowfishEngine" "BlockCipher") ∈ lw_tbl := lw_at lw_m1 107 rfl
theorem q121 : (Jvm.Cond.selects "BlowfishEngine" ({ cls := "BlockCipher", name := "init", desc := "(ZLCipherParameters;)V" } : Jvm.MethodName) ({ cls := "BlowfishEngine", name := "init", desc := "(ZLCipherParameters;)V" } : Jvm.MethodName)) ∈ lw_all := lw_g (lw_at lw_m1 108 rfl) rfl
theorem q122 : (Jvm.Cond.unhidden "BlowfishEngine" "init" "(ZLCipherParameters;)V") ∈ lw_tbl := lw_at lw_m1 109 rfl
theorem q123 : (Jvm.Cond.instanceMethod ({ cls := "BlowfishEngine", name := "init", desc := "(ZLCipherParameters;)V" } : Jvm.MethodName)) ∈ lw_all := lw_g (lw_at lw_m1 110 rfl) rfl
theorem q124 : (Jvm.Cond.publicMethod ({ cls := "BlowfishEngine", name := "init", desc := "(ZLCipherParameters;)V" } : Jvm.MethodName)) ∈ lw_tbl := lw_at lw_m1 111 rfl
theorem q125 : (Jvm.Cond.code ({ cls := "BlowfishEngine", name := "init", desc := "(ZLCipherParameters;)V" } : Jvm.MethodName) prog_5_method_2_code (3 : Nat) (Option.none : Option Jvm.ClassFile.FieldType)) ∈ lw_all := lw_g (lw_at lw_m1 112 rfl) rfl
theorem q126 : (Jvm.Cond.classLink "BlowfishEngine" (33 : Nat) "KeyParameter") ∈ lw_all := lw_g (lw_at lw_m1 113 rfl) rfl
theorem q127 : (Jvm.Cond.methodLink "BlowfishEngine" (35 : Nat) ({ cls := "KeyParameter", name := "getKey", desc := "()[B" } : Jvm.MethodName)) ∈ lw_all := lw_g (lw_at lw_m1 114 rfl) rfl
theorem q131 : (Jvm.Cond.methodLink "BlowfishEngine" (39 : Nat) ({ cls := "BlowfishEngine", name := "setKey", desc := "([B)V" } : Jvm.MethodName)) ∈ lw_all := lw_g (lw_at lw_m1 118 rfl) rfl
theorem q132 : (Jvm.Cond.privateMethod ({ cls := "BlowfishEngine", name := "setKey", desc := "([B)V" } : Jvm.MethodName)) ∈ lw_tbl := lw_at lw_m1 119 rfl
theorem q133 : (Jvm.Cond.instanceMethod ({ cls := "BlowfishEngine", name := "setKey", desc := "([B)V" } : Jvm.MethodName)) ∈ lw_all := lw_g (lw_at lw_m1 120 rfl) rfl
theorem q134 : (Jvm.Cond.code ({ cls := "BlowfishEngine", name := "setKey", desc := "([B)V" } : Jvm.MethodName) prog_5_method_6_code (7 : Nat) (Option.none : Option Jvm.ClassFile.FieldType)) ∈ lw_all := lw_g (lw_at lw_m1 121 rfl) rfl
theorem q135 : (Jvm.Cond.classLink "BlowfishEngine" (43 : Nat) "java/lang/IllegalArgumentException") ∈ lw_all := lw_g (lw_at lw_m1 122 rfl) rfl
theorem q177 : (Jvm.Cond.stringRef "BlowfishEngine" (76 : Nat) "key length must be in range 32 to 448 bits") ∈ lw_tbl := lw_at lw_m1 164 rfl
theorem q178 : (Jvm.Cond.methodLink "BlowfishEngine" (47 : Nat) ({ cls := "java/lang/IllegalArgumentException", name := "<init>", desc := "(Ljava/lang/String;)V" } : Jvm.MethodName)) ∈ lw_all := lw_g (lw_at lw_m1 165 rfl) rfl
theorem q203 : (Jvm.Cond.fieldLink "BlowfishEngine" (78 : Nat) "BlowfishEngine" "KS0" "[I") ∈ lw_all := lw_g (lw_at lw_m1 190 rfl) rfl
theorem q204 : (Jvm.Cond.laysStatic "BlowfishEngine" "KS0" "[I") ∈ lw_tbl := lw_at lw_m1 191 rfl
theorem q205 : (Jvm.Cond.methodLink "BlowfishEngine" (81 : Nat) ({ cls := "java/lang/System", name := "arraycopy", desc := "(Ljava/lang/Object;ILjava/lang/Object;II)V" } : Jvm.MethodName)) ∈ lw_all := lw_g (lw_at lw_m1 192 rfl) rfl
theorem q206 : (Jvm.Cond.fieldLink "BlowfishEngine" (87 : Nat) "BlowfishEngine" "KS1" "[I") ∈ lw_all := lw_g (lw_at lw_m1 193 rfl) rfl
theorem q207 : (Jvm.Cond.laysStatic "BlowfishEngine" "KS1" "[I") ∈ lw_tbl := lw_at lw_m1 194 rfl
theorem q208 : (Jvm.Cond.fieldLink "BlowfishEngine" (90 : Nat) "BlowfishEngine" "KS2" "[I") ∈ lw_all := lw_g (lw_at lw_m1 195 rfl) rfl
theorem q209 : (Jvm.Cond.laysStatic "BlowfishEngine" "KS2" "[I") ∈ lw_tbl := lw_at lw_m1 196 rfl
theorem q210 : (Jvm.Cond.fieldLink "BlowfishEngine" (93 : Nat) "BlowfishEngine" "KS3" "[I") ∈ lw_all := lw_g (lw_at lw_m1 197 rfl) rfl
theorem q211 : (Jvm.Cond.laysStatic "BlowfishEngine" "KS3" "[I") ∈ lw_tbl := lw_at lw_m1 198 rfl
theorem q212 : (Jvm.Cond.fieldLink "BlowfishEngine" (96 : Nat) "BlowfishEngine" "KP" "[I") ∈ lw_all := lw_g (lw_at lw_m1 199 rfl) rfl
theorem q213 : (Jvm.Cond.laysStatic "BlowfishEngine" "KP" "[I") ∈ lw_tbl := lw_at lw_m1 200 rfl
theorem q214 : (Jvm.Cond.methodLink "BlowfishEngine" (99 : Nat) ({ cls := "BlowfishEngine", name := "processTable", desc := "(II[I)V" } : Jvm.MethodName)) ∈ lw_all := lw_g (lw_at lw_m1 201 rfl) rfl
theorem q215 : (Jvm.Cond.privateMethod ({ cls := "BlowfishEngine", name := "processTable", desc := "(II[I)V" } : Jvm.MethodName)) ∈ lw_tbl := lw_at lw_m1 202 rfl
theorem q216 : (Jvm.Cond.instanceMethod ({ cls := "BlowfishEngine", name := "processTable", desc := "(II[I)V" } : Jvm.MethodName)) ∈ lw_all := lw_g (lw_at lw_m1 203 rfl) rfl
theorem q217 : (Jvm.Cond.code ({ cls := "BlowfishEngine", name := "processTable", desc := "(II[I)V" } : Jvm.MethodName) prog_5_method_5_code (7 : Nat) (Option.none : Option Jvm.ClassFile.FieldType)) ∈ lw_all := lw_g (lw_at lw_m1 204 rfl) rfl
theorem q218 : (Jvm.Cond.methodLink "BlowfishEngine" (72 : Nat) ({ cls := "BlowfishEngine", name := "F", desc := "(I)I" } : Jvm.MethodName)) ∈ lw_all := lw_g (lw_at lw_m1 205 rfl) rfl
theorem q219 : (Jvm.Cond.privateMethod ({ cls := "BlowfishEngine", name := "F", desc := "(I)I" } : Jvm.MethodName)) ∈ lw_tbl := lw_at lw_m1 206 rfl
theorem q220 : (Jvm.Cond.instanceMethod ({ cls := "BlowfishEngine", name := "F", desc := "(I)I" } : Jvm.MethodName)) ∈ lw_all := lw_g (lw_at lw_m1 207 rfl) rfl
theorem q221 : (Jvm.Cond.code ({ cls := "BlowfishEngine", name := "F", desc := "(I)I" } : Jvm.MethodName) prog_5_method_4_code (2 : Nat) (Option.some Jvm.ClassFile.FieldType.int)) ∈ lw_all := lw_g (lw_at lw_m1 208 rfl) rfl
theorem q222 : (Jvm.Cond.stringRef "BlowfishEngine" (45 : Nat) "left out") ∈ lw_tbl := lw_at lw_m1 209 rfl
theorem q227 : (Jvm.Cond.selects "BlowfishEngine" ({ cls := "BlockCipher", name := "processBlock", desc := "([BI[BI)I" } : Jvm.MethodName) ({ cls := "BlowfishEngine", name := "processBlock", desc := "([BI[BI)I" } : Jvm.MethodName)) ∈ lw_all := lw_g (lw_at lw_m1 214 rfl) rfl
theorem q228 : (Jvm.Cond.unhidden "BlowfishEngine" "processBlock" "([BI[BI)I") ∈ lw_tbl := lw_at lw_m1 215 rfl
theorem q229 : (Jvm.Cond.instanceMethod ({ cls := "BlowfishEngine", name := "processBlock", desc := "([BI[BI)I" } : Jvm.MethodName)) ∈ lw_all := lw_g (lw_at lw_m1 216 rfl) rfl
theorem q230 : (Jvm.Cond.publicMethod ({ cls := "BlowfishEngine", name := "processBlock", desc := "([BI[BI)I" } : Jvm.MethodName)) ∈ lw_tbl := lw_at lw_m1 217 rfl
theorem q231 : (Jvm.Cond.code ({ cls := "BlowfishEngine", name := "processBlock", desc := "([BI[BI)I" } : Jvm.MethodName) prog_5_method_3_code (5 : Nat) (Option.some Jvm.ClassFile.FieldType.int)) ∈ lw_all := lw_g (lw_at lw_m1 218 rfl) rfl
theorem q232 : (Jvm.Cond.classLink "BlowfishEngine" (50 : Nat) "java/lang/IllegalStateException") ∈ lw_all := lw_g (lw_at lw_m1 219 rfl) rfl
theorem q241 : (Jvm.Cond.stringRef "BlowfishEngine" (52 : Nat) "Blowfish not initialised") ∈ lw_tbl := lw_at lw_m1 228 rfl
theorem q242 : (Jvm.Cond.methodLink "BlowfishEngine" (54 : Nat) ({ cls := "java/lang/IllegalStateException", name := "<init>", desc := "(Ljava/lang/String;)V" } : Jvm.MethodName)) ∈ lw_all := lw_g (lw_at lw_m1 229 rfl) rfl
theorem q248 : (Jvm.Cond.classLink "BlowfishEngine" (55 : Nat) "DataLengthException") ∈ lw_all := lw_g (lw_at lw_m1 235 rfl) rfl
theorem q258 : (Jvm.Cond.stringRef "BlowfishEngine" (57 : Nat) "input buffer too short") ∈ lw_tbl := lw_at lw_m2 5 rfl
theorem q259 : (Jvm.Cond.methodLink "BlowfishEngine" (59 : Nat) ({ cls := "DataLengthException", name := "<init>", desc := "(Ljava/lang/String;)V" } : Jvm.MethodName)) ∈ lw_all := lw_g (lw_at lw_m2 6 rfl) rfl
theorem q268 : (Jvm.Cond.classLink "BlowfishEngine" (60 : Nat) "OutputLengthException") ∈ lw_all := lw_g (lw_at lw_m2 15 rfl) rfl
theorem q278 : (Jvm.Cond.stringRef "BlowfishEngine" (62 : Nat) "output buffer too short") ∈ lw_tbl := lw_at lw_m2 25 rfl
theorem q279 : (Jvm.Cond.methodLink "BlowfishEngine" (64 : Nat) ({ cls := "OutputLengthException", name := "<init>", desc := "(Ljava/lang/String;)V" } : Jvm.MethodName)) ∈ lw_all := lw_g (lw_at lw_m2 26 rfl) rfl
theorem q285 : (Jvm.Cond.methodLink "BlowfishEngine" (65 : Nat) ({ cls := "BlowfishEngine", name := "encryptBlock", desc := "([BI[BI)V" } : Jvm.MethodName)) ∈ lw_all := lw_g (lw_at lw_m2 32 rfl) rfl
theorem q286 : (Jvm.Cond.privateMethod ({ cls := "BlowfishEngine", name := "encryptBlock", desc := "([BI[BI)V" } : Jvm.MethodName)) ∈ lw_tbl := lw_at lw_m2 33 rfl
theorem q287 : (Jvm.Cond.instanceMethod ({ cls := "BlowfishEngine", name := "encryptBlock", desc := "([BI[BI)V" } : Jvm.MethodName)) ∈ lw_all := lw_g (lw_at lw_m2 34 rfl) rfl
theorem q288 : (Jvm.Cond.code ({ cls := "BlowfishEngine", name := "encryptBlock", desc := "([BI[BI)V" } : Jvm.MethodName) prog_5_method_7_code (8 : Nat) (Option.none : Option Jvm.ClassFile.FieldType)) ∈ lw_all := lw_g (lw_at lw_m2 35 rfl) rfl
theorem q289 : (Jvm.Cond.methodLink "BlowfishEngine" (103 : Nat) ({ cls := "BlowfishEngine", name := "BytesTo32bits", desc := "([BI)I" } : Jvm.MethodName)) ∈ lw_all := lw_g (lw_at lw_m2 36 rfl) rfl
theorem q290 : (Jvm.Cond.privateMethod ({ cls := "BlowfishEngine", name := "BytesTo32bits", desc := "([BI)I" } : Jvm.MethodName)) ∈ lw_tbl := lw_at lw_m2 37 rfl
theorem q291 : (Jvm.Cond.instanceMethod ({ cls := "BlowfishEngine", name := "BytesTo32bits", desc := "([BI)I" } : Jvm.MethodName)) ∈ lw_all := lw_g (lw_at lw_m2 38 rfl) rfl
theorem q292 : (Jvm.Cond.code ({ cls := "BlowfishEngine", name := "BytesTo32bits", desc := "([BI)I" } : Jvm.MethodName) prog_5_method_9_code (3 : Nat) (Option.some Jvm.ClassFile.FieldType.int)) ∈ lw_all := lw_g (lw_at lw_m2 39 rfl) rfl
theorem q293 : (Jvm.Cond.methodLink "BlowfishEngine" (107 : Nat) ({ cls := "BlowfishEngine", name := "Bits32ToBytes", desc := "(I[BI)V" } : Jvm.MethodName)) ∈ lw_all := lw_g (lw_at lw_m2 40 rfl) rfl
theorem q294 : (Jvm.Cond.privateMethod ({ cls := "BlowfishEngine", name := "Bits32ToBytes", desc := "(I[BI)V" } : Jvm.MethodName)) ∈ lw_tbl := lw_at lw_m2 41 rfl
theorem q295 : (Jvm.Cond.instanceMethod ({ cls := "BlowfishEngine", name := "Bits32ToBytes", desc := "(I[BI)V" } : Jvm.MethodName)) ∈ lw_all := lw_g (lw_at lw_m2 42 rfl) rfl
theorem q296 : (Jvm.Cond.code ({ cls := "BlowfishEngine", name := "Bits32ToBytes", desc := "(I[BI)V" } : Jvm.MethodName) prog_5_method_10_code (4 : Nat) (Option.none : Option Jvm.ClassFile.FieldType)) ∈ lw_all := lw_g (lw_at lw_m2 43 rfl) rfl
theorem q297 : (Jvm.Cond.methodLink "BlowfishEngine" (69 : Nat) ({ cls := "BlowfishEngine", name := "decryptBlock", desc := "([BI[BI)V" } : Jvm.MethodName)) ∈ lw_all := lw_g (lw_at lw_m2 44 rfl) rfl
theorem q298 : (Jvm.Cond.privateMethod ({ cls := "BlowfishEngine", name := "decryptBlock", desc := "([BI[BI)V" } : Jvm.MethodName)) ∈ lw_tbl := lw_at lw_m2 45 rfl
theorem q299 : (Jvm.Cond.instanceMethod ({ cls := "BlowfishEngine", name := "decryptBlock", desc := "([BI[BI)V" } : Jvm.MethodName)) ∈ lw_all := lw_g (lw_at lw_m2 46 rfl) rfl
theorem q300 : (Jvm.Cond.code ({ cls := "BlowfishEngine", name := "decryptBlock", desc := "([BI[BI)V" } : Jvm.MethodName) prog_5_method_8_code (8 : Nat) (Option.none : Option Jvm.ClassFile.FieldType)) ∈ lw_all := lw_g (lw_at lw_m2 47 rfl) rfl
theorem in_X2 : ∀ w ∈ wsX20, w ∈ lw_all := lw_in wsX20 [81, 83, 85, 87, 89, 91, 93] (by decide +kernel) (by decide +kernel)
end
section
/-! BlowfishDeskModel -/
set_option maxRecDepth 100000
def RX1 : String := "BlowfishDeskModel"
def TX1 : u_T := fun k => match k with
  | 0 => ("BlowfishDeskModel", "key", "[B", true)
  | 1 => ("BlowfishDeskModel", "block", "[B", true)
  | 2 => ("BlowfishDeskModel", "out", "[B", true)
  | _ => ("BlowfishDeskModel", "table", "[I", true)
def tyX1 : Nat → FieldType := fun k => match k with
  | 0 => .array .byte
  | 1 => .array .byte
  | 2 => .array .byte
  | _ => .array .int
abbrev wsX10 : List Cond := u_ws RX1 TX1 4
theorem nmX1 : ∀ a, a < 4 → ∀ b, b < 4 → a ≠ b → (TX1 a).2.1 ≠ (TX1 b).2.1 := by decide +kernel
theorem tyX1_ok : ∀ k, k < 4 → parseFieldDescriptor (TX1 k).2.2.1 = some (tyX1 k) := by decide +kernel
abbrev cX1_init : ByteArray := prog_4_method_1_code
def yX1_init : MethodName := ⟨RX1, "<init>", "()V"⟩
def dkwX1_init_1 : List UInt8 := [188, 8, 181, 0, 16, 42, 17, 4, 18, 188, 10, 181, 0, 19, 177]
abbrev dktX1_init_1 : List UInt8 := dkwX1_init_1 ++ []
def dkwX1_init_0 : List UInt8 := [42, 183, 0, 1, 42, 16, 32, 188, 8, 181, 0, 7, 42, 16, 8, 188, 8, 181, 0, 13, 42, 16, 8]
abbrev dktX1_init_0 : List UInt8 := dkwX1_init_0 ++ dktX1_init_1
theorem dksX1_init_0 : cX1_init.data.toList.drop 0 = dktX1_init_0 := by decide +kernel
theorem dksX1_init_1 : cX1_init.data.toList.drop 23 = dktX1_init_1 := dk_seg dksX1_init_0 23 rfl rfl
theorem dX1_init_0 : decode cX1_init 0 = .ok (.aload_n 0, 1) := dk_42 (dk_at dksX1_init_0 0 rfl rfl)
theorem dX1_init_1 : decode cX1_init 1 = .ok (.invokespecial 1, 3) := dk_183 0 1 (dk_at dksX1_init_0 1 rfl rfl)
theorem dX1_init_4 : decode cX1_init 4 = .ok (.aload_n 0, 1) := dk_42 (dk_at dksX1_init_0 4 rfl rfl)
theorem dX1_init_5 : decode cX1_init 5 = .ok (.bipush 32, 2) := dk_16 32 (dk_at dksX1_init_0 5 rfl rfl)
theorem dX1_init_7 : decode cX1_init 7 = .ok (.newarray .byte, 2) := dk_188_8 (dk_at dksX1_init_0 7 rfl rfl)
theorem dX1_init_9 : decode cX1_init 9 = .ok (.putfield 7, 3) := dk_181 0 7 (dk_at dksX1_init_0 9 rfl rfl)
theorem dX1_init_12 : decode cX1_init 12 = .ok (.aload_n 0, 1) := dk_42 (dk_at dksX1_init_0 12 rfl rfl)
theorem dX1_init_13 : decode cX1_init 13 = .ok (.bipush 8, 2) := dk_16 8 (dk_at dksX1_init_0 13 rfl rfl)
theorem dX1_init_15 : decode cX1_init 15 = .ok (.newarray .byte, 2) := dk_188_8 (dk_at dksX1_init_0 15 rfl rfl)
theorem dX1_init_17 : decode cX1_init 17 = .ok (.putfield 13, 3) := dk_181 0 13 (dk_at dksX1_init_0 17 rfl rfl)
theorem dX1_init_20 : decode cX1_init 20 = .ok (.aload_n 0, 1) := dk_42 (dk_at dksX1_init_0 20 rfl rfl)
theorem dX1_init_21 : decode cX1_init 21 = .ok (.bipush 8, 2) := dk_16 8 (dk_at dksX1_init_0 21 rfl rfl)
theorem dX1_init_23 : decode cX1_init 23 = .ok (.newarray .byte, 2) := dk_188_8 (dk_at dksX1_init_1 0 rfl rfl)
theorem dX1_init_25 : decode cX1_init 25 = .ok (.putfield 16, 3) := dk_181 0 16 (dk_at dksX1_init_1 2 rfl rfl)
theorem dX1_init_28 : decode cX1_init 28 = .ok (.aload_n 0, 1) := dk_42 (dk_at dksX1_init_1 5 rfl rfl)
theorem dX1_init_29 : decode cX1_init 29 = .ok (.sipush 1042, 3) := dk_17 4 18 (dk_at dksX1_init_1 6 rfl rfl)
theorem dX1_init_32 : decode cX1_init 32 = .ok (.newarray .int, 2) := dk_188_10 (dk_at dksX1_init_1 9 rfl rfl)
theorem dX1_init_34 : decode cX1_init 34 = .ok (.putfield 19, 3) := dk_181 0 19 (dk_at dksX1_init_1 11 rfl rfl)
theorem dX1_init_37 : decode cX1_init 37 = .ok (.return_, 1) := dk_177 (dk_at dksX1_init_1 14 rfl rfl)
abbrev cX1_key : ByteArray := prog_4_method_4_code
def yX1_key : MethodName := ⟨RX1, "key", "(IIIII)V"⟩
def dkwX1_key_2 : List UInt8 := [21, 6, 16, 12, 96, 21, 5, 184, 0, 23, 177]
abbrev dktX1_key_2 : List UInt8 := dkwX1_key_2 ++ []
def dkwX1_key_1 : List UInt8 := [7, 96, 29, 184, 0, 23, 42, 180, 0, 7, 21, 6, 16, 8, 96, 21, 4, 184, 0, 23, 42, 180, 0, 7]
abbrev dktX1_key_1 : List UInt8 := dkwX1_key_1 ++ dktX1_key_2
def dkwX1_key_0 : List UInt8 := [16, 16, 27, 4, 126, 104, 54, 6, 42, 180, 0, 7, 21, 6, 28, 184, 0, 23, 42, 180, 0, 7, 21, 6]
abbrev dktX1_key_0 : List UInt8 := dkwX1_key_0 ++ dktX1_key_1
theorem dksX1_key_0 : cX1_key.data.toList.drop 0 = dktX1_key_0 := by decide +kernel
theorem dksX1_key_1 : cX1_key.data.toList.drop 24 = dktX1_key_1 := dk_seg dksX1_key_0 24 rfl rfl
theorem dksX1_key_2 : cX1_key.data.toList.drop 48 = dktX1_key_2 := dk_seg dksX1_key_1 24 rfl rfl
theorem dX1_key_0 : decode cX1_key 0 = .ok (.bipush 16, 2) := dk_16 16 (dk_at dksX1_key_0 0 rfl rfl)
theorem dX1_key_2 : decode cX1_key 2 = .ok (.iload_n 1, 1) := dk_27 (dk_at dksX1_key_0 2 rfl rfl)
theorem dX1_key_3 : decode cX1_key 3 = .ok (.iconst 1, 1) := dk_4 (dk_at dksX1_key_0 3 rfl rfl)
theorem dX1_key_4 : decode cX1_key 4 = .ok (.iand, 1) := dk_126 (dk_at dksX1_key_0 4 rfl rfl)
theorem dX1_key_5 : decode cX1_key 5 = .ok (.imul, 1) := dk_104 (dk_at dksX1_key_0 5 rfl rfl)
theorem dX1_key_6 : decode cX1_key 6 = .ok (.istore 6, 2) := dk_54 6 (dk_at dksX1_key_0 6 rfl rfl)
theorem dX1_key_8 : decode cX1_key 8 = .ok (.aload_n 0, 1) := dk_42 (dk_at dksX1_key_0 8 rfl rfl)
theorem dX1_key_9 : decode cX1_key 9 = .ok (.getfield 7, 3) := dk_180 0 7 (dk_at dksX1_key_0 9 rfl rfl)
theorem dX1_key_12 : decode cX1_key 12 = .ok (.iload 6, 2) := dk_21 6 (dk_at dksX1_key_0 12 rfl rfl)
theorem dX1_key_14 : decode cX1_key 14 = .ok (.iload_n 2, 1) := dk_28 (dk_at dksX1_key_0 14 rfl rfl)
theorem dX1_key_15 : decode cX1_key 15 = .ok (.invokestatic 23, 3) := dk_184 0 23 (dk_at dksX1_key_0 15 rfl rfl)
theorem dX1_key_18 : decode cX1_key 18 = .ok (.aload_n 0, 1) := dk_42 (dk_at dksX1_key_0 18 rfl rfl)
theorem dX1_key_19 : decode cX1_key 19 = .ok (.getfield 7, 3) := dk_180 0 7 (dk_at dksX1_key_0 19 rfl rfl)
theorem dX1_key_22 : decode cX1_key 22 = .ok (.iload 6, 2) := dk_21 6 (dk_at dksX1_key_0 22 rfl rfl)
theorem dX1_key_24 : decode cX1_key 24 = .ok (.iconst 4, 1) := dk_7 (dk_at dksX1_key_1 0 rfl rfl)
theorem dX1_key_25 : decode cX1_key 25 = .ok (.iadd, 1) := dk_96 (dk_at dksX1_key_1 1 rfl rfl)
theorem dX1_key_26 : decode cX1_key 26 = .ok (.iload_n 3, 1) := dk_29 (dk_at dksX1_key_1 2 rfl rfl)
theorem dX1_key_27 : decode cX1_key 27 = .ok (.invokestatic 23, 3) := dk_184 0 23 (dk_at dksX1_key_1 3 rfl rfl)
theorem dX1_key_30 : decode cX1_key 30 = .ok (.aload_n 0, 1) := dk_42 (dk_at dksX1_key_1 6 rfl rfl)
theorem dX1_key_31 : decode cX1_key 31 = .ok (.getfield 7, 3) := dk_180 0 7 (dk_at dksX1_key_1 7 rfl rfl)
theorem dX1_key_34 : decode cX1_key 34 = .ok (.iload 6, 2) := dk_21 6 (dk_at dksX1_key_1 10 rfl rfl)
theorem dX1_key_36 : decode cX1_key 36 = .ok (.bipush 8, 2) := dk_16 8 (dk_at dksX1_key_1 12 rfl rfl)
theorem dX1_key_38 : decode cX1_key 38 = .ok (.iadd, 1) := dk_96 (dk_at dksX1_key_1 14 rfl rfl)
theorem dX1_key_39 : decode cX1_key 39 = .ok (.iload 4, 2) := dk_21 4 (dk_at dksX1_key_1 15 rfl rfl)
theorem dX1_key_41 : decode cX1_key 41 = .ok (.invokestatic 23, 3) := dk_184 0 23 (dk_at dksX1_key_1 17 rfl rfl)
theorem dX1_key_44 : decode cX1_key 44 = .ok (.aload_n 0, 1) := dk_42 (dk_at dksX1_key_1 20 rfl rfl)
theorem dX1_key_45 : decode cX1_key 45 = .ok (.getfield 7, 3) := dk_180 0 7 (dk_at dksX1_key_1 21 rfl rfl)
theorem dX1_key_48 : decode cX1_key 48 = .ok (.iload 6, 2) := dk_21 6 (dk_at dksX1_key_2 0 rfl rfl)
theorem dX1_key_50 : decode cX1_key 50 = .ok (.bipush 12, 2) := dk_16 12 (dk_at dksX1_key_2 2 rfl rfl)
theorem dX1_key_52 : decode cX1_key 52 = .ok (.iadd, 1) := dk_96 (dk_at dksX1_key_2 4 rfl rfl)
theorem dX1_key_53 : decode cX1_key 53 = .ok (.iload 5, 2) := dk_21 5 (dk_at dksX1_key_2 5 rfl rfl)
theorem dX1_key_55 : decode cX1_key 55 = .ok (.invokestatic 23, 3) := dk_184 0 23 (dk_at dksX1_key_2 7 rfl rfl)
theorem dX1_key_58 : decode cX1_key 58 = .ok (.return_, 1) := dk_177 (dk_at dksX1_key_2 10 rfl rfl)
abbrev cX1_put : ByteArray := prog_4_method_2_code
def yX1_put : MethodName := ⟨RX1, "put", "([BII)V"⟩
def dkwX1_put_1 : List UInt8 := [132, 3, 1, 167, 255, 233, 177]
abbrev dktX1_put_1 : List UInt8 := dkwX1_put_1 ++ []
def dkwX1_put_0 : List UInt8 := [3, 62, 29, 7, 162, 0, 24, 42, 27, 29, 96, 28, 16, 24, 16, 8, 29, 104, 100, 122, 145, 84]
abbrev dktX1_put_0 : List UInt8 := dkwX1_put_0 ++ dktX1_put_1
theorem dksX1_put_0 : cX1_put.data.toList.drop 0 = dktX1_put_0 := by decide +kernel
theorem dksX1_put_1 : cX1_put.data.toList.drop 22 = dktX1_put_1 := dk_seg dksX1_put_0 22 rfl rfl
theorem dX1_put_0 : decode cX1_put 0 = .ok (.iconst 0, 1) := dk_3 (dk_at dksX1_put_0 0 rfl rfl)
theorem dX1_put_1 : decode cX1_put 1 = .ok (.istore_n 3, 1) := dk_62 (dk_at dksX1_put_0 1 rfl rfl)
theorem dX1_put_2 : decode cX1_put 2 = .ok (.iload_n 3, 1) := dk_29 (dk_at dksX1_put_0 2 rfl rfl)
theorem dX1_put_3 : decode cX1_put 3 = .ok (.iconst 4, 1) := dk_7 (dk_at dksX1_put_0 3 rfl rfl)
theorem dX1_put_4 : decode cX1_put 4 = .ok (.if_icmp .ge 24, 3) := dk_162 0 24 (dk_at dksX1_put_0 4 rfl rfl)
theorem dX1_put_7 : decode cX1_put 7 = .ok (.aload_n 0, 1) := dk_42 (dk_at dksX1_put_0 7 rfl rfl)
theorem dX1_put_8 : decode cX1_put 8 = .ok (.iload_n 1, 1) := dk_27 (dk_at dksX1_put_0 8 rfl rfl)
theorem dX1_put_9 : decode cX1_put 9 = .ok (.iload_n 3, 1) := dk_29 (dk_at dksX1_put_0 9 rfl rfl)
theorem dX1_put_10 : decode cX1_put 10 = .ok (.iadd, 1) := dk_96 (dk_at dksX1_put_0 10 rfl rfl)
theorem dX1_put_11 : decode cX1_put 11 = .ok (.iload_n 2, 1) := dk_28 (dk_at dksX1_put_0 11 rfl rfl)
theorem dX1_put_12 : decode cX1_put 12 = .ok (.bipush 24, 2) := dk_16 24 (dk_at dksX1_put_0 12 rfl rfl)
theorem dX1_put_14 : decode cX1_put 14 = .ok (.bipush 8, 2) := dk_16 8 (dk_at dksX1_put_0 14 rfl rfl)
theorem dX1_put_16 : decode cX1_put 16 = .ok (.iload_n 3, 1) := dk_29 (dk_at dksX1_put_0 16 rfl rfl)
theorem dX1_put_17 : decode cX1_put 17 = .ok (.imul, 1) := dk_104 (dk_at dksX1_put_0 17 rfl rfl)
theorem dX1_put_18 : decode cX1_put 18 = .ok (.isub, 1) := dk_100 (dk_at dksX1_put_0 18 rfl rfl)
theorem dX1_put_19 : decode cX1_put 19 = .ok (.ishr, 1) := dk_122 (dk_at dksX1_put_0 19 rfl rfl)
theorem dX1_put_20 : decode cX1_put 20 = .ok (.i2b, 1) := dk_145 (dk_at dksX1_put_0 20 rfl rfl)
theorem dX1_put_21 : decode cX1_put 21 = .ok (.bastore, 1) := dk_84 (dk_at dksX1_put_0 21 rfl rfl)
theorem dX1_put_22 : decode cX1_put 22 = .ok (.iinc 3 1, 3) := dk_132 3 1 (dk_at dksX1_put_1 0 rfl rfl)
theorem dX1_put_25 : decode cX1_put 25 = .ok (.goto (-23), 3) := dk_167 255 233 (dk_at dksX1_put_1 3 rfl rfl)
theorem dX1_put_28 : decode cX1_put 28 = .ok (.return_, 1) := dk_177 (dk_at dksX1_put_1 6 rfl rfl)
abbrev cX1_block : ByteArray := prog_4_method_5_code
def yX1_block : MethodName := ⟨RX1, "block", "(II)V"⟩
def dkwX1_block_0 : List UInt8 := [42, 180, 0, 13, 3, 27, 184, 0, 23, 42, 180, 0, 13, 7, 28, 184, 0, 23, 177]
abbrev dktX1_block_0 : List UInt8 := dkwX1_block_0 ++ []
theorem dksX1_block_0 : cX1_block.data.toList.drop 0 = dktX1_block_0 := by decide +kernel
theorem dX1_block_0 : decode cX1_block 0 = .ok (.aload_n 0, 1) := dk_42 (dk_at dksX1_block_0 0 rfl rfl)
theorem dX1_block_1 : decode cX1_block 1 = .ok (.getfield 13, 3) := dk_180 0 13 (dk_at dksX1_block_0 1 rfl rfl)
theorem dX1_block_4 : decode cX1_block 4 = .ok (.iconst 0, 1) := dk_3 (dk_at dksX1_block_0 4 rfl rfl)
theorem dX1_block_5 : decode cX1_block 5 = .ok (.iload_n 1, 1) := dk_27 (dk_at dksX1_block_0 5 rfl rfl)
theorem dX1_block_6 : decode cX1_block 6 = .ok (.invokestatic 23, 3) := dk_184 0 23 (dk_at dksX1_block_0 6 rfl rfl)
theorem dX1_block_9 : decode cX1_block 9 = .ok (.aload_n 0, 1) := dk_42 (dk_at dksX1_block_0 9 rfl rfl)
theorem dX1_block_10 : decode cX1_block 10 = .ok (.getfield 13, 3) := dk_180 0 13 (dk_at dksX1_block_0 10 rfl rfl)
theorem dX1_block_13 : decode cX1_block 13 = .ok (.iconst 4, 1) := dk_7 (dk_at dksX1_block_0 13 rfl rfl)
theorem dX1_block_14 : decode cX1_block 14 = .ok (.iload_n 2, 1) := dk_28 (dk_at dksX1_block_0 14 rfl rfl)
theorem dX1_block_15 : decode cX1_block 15 = .ok (.invokestatic 23, 3) := dk_184 0 23 (dk_at dksX1_block_0 15 rfl rfl)
theorem dX1_block_18 : decode cX1_block 18 = .ok (.return_, 1) := dk_177 (dk_at dksX1_block_0 18 rfl rfl)
abbrev cX1_lock : ByteArray := prog_4_method_10_code
def yX1_lock : MethodName := ⟨RX1, "lock", "(I)V"⟩
def dkwX1_lock_0 : List UInt8 := [42, 27, 4, 182, 0, 48, 177]
abbrev dktX1_lock_0 : List UInt8 := dkwX1_lock_0 ++ []
theorem dksX1_lock_0 : cX1_lock.data.toList.drop 0 = dktX1_lock_0 := by decide +kernel
theorem dX1_lock_0 : decode cX1_lock 0 = .ok (.aload_n 0, 1) := dk_42 (dk_at dksX1_lock_0 0 rfl rfl)
theorem dX1_lock_1 : decode cX1_lock 1 = .ok (.iload_n 1, 1) := dk_27 (dk_at dksX1_lock_0 1 rfl rfl)
theorem dX1_lock_2 : decode cX1_lock 2 = .ok (.iconst 1, 1) := dk_4 (dk_at dksX1_lock_0 2 rfl rfl)
theorem dX1_lock_3 : decode cX1_lock 3 = .ok (.invokevirtual 48, 3) := dk_182 0 48 (dk_at dksX1_lock_0 3 rfl rfl)
theorem dX1_lock_6 : decode cX1_lock 6 = .ok (.return_, 1) := dk_177 (dk_at dksX1_lock_0 6 rfl rfl)
abbrev cX1_runs : ByteArray := prog_4_method_9_code
def yX1_runs : MethodName := ⟨RX1, "runs", "(IZ)V"⟩
def dkwX1_runs_2 : List UInt8 := [184, 0, 23, 177]
abbrev dktX1_runs_2 : List UInt8 := dkwX1_runs_2 ++ []
def dkwX1_runs_1 : List UInt8 := [182, 0, 36, 66, 42, 180, 0, 16, 3, 33, 16, 32, 125, 136, 184, 0, 23, 42, 180, 0, 16, 7, 33, 136]
abbrev dktX1_runs_1 : List UInt8 := dkwX1_runs_1 ++ dktX1_runs_2
def dkwX1_runs_0 : List UInt8 := [42, 27, 182, 0, 40, 42, 42, 180, 0, 13, 3, 184, 0, 44, 42, 180, 0, 13, 7, 184, 0, 44, 28]
abbrev dktX1_runs_0 : List UInt8 := dkwX1_runs_0 ++ dktX1_runs_1
theorem dksX1_runs_0 : cX1_runs.data.toList.drop 0 = dktX1_runs_0 := by decide +kernel
theorem dksX1_runs_1 : cX1_runs.data.toList.drop 23 = dktX1_runs_1 := dk_seg dksX1_runs_0 23 rfl rfl
theorem dksX1_runs_2 : cX1_runs.data.toList.drop 47 = dktX1_runs_2 := dk_seg dksX1_runs_1 24 rfl rfl
theorem dX1_runs_0 : decode cX1_runs 0 = .ok (.aload_n 0, 1) := dk_42 (dk_at dksX1_runs_0 0 rfl rfl)
theorem dX1_runs_1 : decode cX1_runs 1 = .ok (.iload_n 1, 1) := dk_27 (dk_at dksX1_runs_0 1 rfl rfl)
theorem dX1_runs_2 : decode cX1_runs 2 = .ok (.invokevirtual 40, 3) := dk_182 0 40 (dk_at dksX1_runs_0 2 rfl rfl)
theorem dX1_runs_5 : decode cX1_runs 5 = .ok (.aload_n 0, 1) := dk_42 (dk_at dksX1_runs_0 5 rfl rfl)
theorem dX1_runs_6 : decode cX1_runs 6 = .ok (.aload_n 0, 1) := dk_42 (dk_at dksX1_runs_0 6 rfl rfl)
theorem dX1_runs_7 : decode cX1_runs 7 = .ok (.getfield 13, 3) := dk_180 0 13 (dk_at dksX1_runs_0 7 rfl rfl)
theorem dX1_runs_10 : decode cX1_runs 10 = .ok (.iconst 0, 1) := dk_3 (dk_at dksX1_runs_0 10 rfl rfl)
theorem dX1_runs_11 : decode cX1_runs 11 = .ok (.invokestatic 44, 3) := dk_184 0 44 (dk_at dksX1_runs_0 11 rfl rfl)
theorem dX1_runs_14 : decode cX1_runs 14 = .ok (.aload_n 0, 1) := dk_42 (dk_at dksX1_runs_0 14 rfl rfl)
theorem dX1_runs_15 : decode cX1_runs 15 = .ok (.getfield 13, 3) := dk_180 0 13 (dk_at dksX1_runs_0 15 rfl rfl)
theorem dX1_runs_18 : decode cX1_runs 18 = .ok (.iconst 4, 1) := dk_7 (dk_at dksX1_runs_0 18 rfl rfl)
theorem dX1_runs_19 : decode cX1_runs 19 = .ok (.invokestatic 44, 3) := dk_184 0 44 (dk_at dksX1_runs_0 19 rfl rfl)
theorem dX1_runs_22 : decode cX1_runs 22 = .ok (.iload_n 2, 1) := dk_28 (dk_at dksX1_runs_0 22 rfl rfl)
theorem dX1_runs_23 : decode cX1_runs 23 = .ok (.invokevirtual 36, 3) := dk_182 0 36 (dk_at dksX1_runs_1 0 rfl rfl)
theorem dX1_runs_26 : decode cX1_runs 26 = .ok (.lstore_n 3, 1) := dk_66 (dk_at dksX1_runs_1 3 rfl rfl)
theorem dX1_runs_27 : decode cX1_runs 27 = .ok (.aload_n 0, 1) := dk_42 (dk_at dksX1_runs_1 4 rfl rfl)
theorem dX1_runs_28 : decode cX1_runs 28 = .ok (.getfield 16, 3) := dk_180 0 16 (dk_at dksX1_runs_1 5 rfl rfl)
theorem dX1_runs_31 : decode cX1_runs 31 = .ok (.iconst 0, 1) := dk_3 (dk_at dksX1_runs_1 8 rfl rfl)
theorem dX1_runs_32 : decode cX1_runs 32 = .ok (.lload_n 3, 1) := dk_33 (dk_at dksX1_runs_1 9 rfl rfl)
theorem dX1_runs_33 : decode cX1_runs 33 = .ok (.bipush 32, 2) := dk_16 32 (dk_at dksX1_runs_1 10 rfl rfl)
theorem dX1_runs_35 : decode cX1_runs 35 = .ok (.lushr, 1) := dk_125 (dk_at dksX1_runs_1 12 rfl rfl)
theorem dX1_runs_36 : decode cX1_runs 36 = .ok (.l2i, 1) := dk_136 (dk_at dksX1_runs_1 13 rfl rfl)
theorem dX1_runs_37 : decode cX1_runs 37 = .ok (.invokestatic 23, 3) := dk_184 0 23 (dk_at dksX1_runs_1 14 rfl rfl)
theorem dX1_runs_40 : decode cX1_runs 40 = .ok (.aload_n 0, 1) := dk_42 (dk_at dksX1_runs_1 17 rfl rfl)
theorem dX1_runs_41 : decode cX1_runs 41 = .ok (.getfield 16, 3) := dk_180 0 16 (dk_at dksX1_runs_1 18 rfl rfl)
theorem dX1_runs_44 : decode cX1_runs 44 = .ok (.iconst 4, 1) := dk_7 (dk_at dksX1_runs_1 21 rfl rfl)
theorem dX1_runs_45 : decode cX1_runs 45 = .ok (.lload_n 3, 1) := dk_33 (dk_at dksX1_runs_1 22 rfl rfl)
theorem dX1_runs_46 : decode cX1_runs 46 = .ok (.l2i, 1) := dk_136 (dk_at dksX1_runs_1 23 rfl rfl)
theorem dX1_runs_47 : decode cX1_runs 47 = .ok (.invokestatic 23, 3) := dk_184 0 23 (dk_at dksX1_runs_2 0 rfl rfl)
theorem dX1_runs_50 : decode cX1_runs 50 = .ok (.return_, 1) := dk_177 (dk_at dksX1_runs_2 3 rfl rfl)
abbrev cX1_sets : ByteArray := prog_4_method_8_code
def yX1_sets : MethodName := ⟨RX1, "sets", "(I)V"⟩
def dkwX1_sets_7 : List UInt8 := [21, 6, 4, 96, 22, 4, 136, 79, 132, 6, 2, 167, 255, 204, 177]
abbrev dktX1_sets_7 : List UInt8 := dkwX1_sets_7 ++ []
def dkwX1_sets_6 : List UInt8 := [4, 182, 0, 36, 55, 4, 42, 180, 0, 19, 21, 6, 22, 4, 16, 32, 125, 136, 79, 42, 180, 0, 19]
abbrev dktX1_sets_6 : List UInt8 := dkwX1_sets_6 ++ dktX1_sets_7
def dkwX1_sets_5 : List UInt8 := [9, 55, 4, 3, 54, 6, 21, 6, 17, 4, 18, 162, 0, 50, 42, 22, 4, 16, 32, 125, 136, 22, 4, 136]
abbrev dktX1_sets_5 : List UInt8 := dkwX1_sets_5 ++ dktX1_sets_6
def dkwX1_sets_4 : List UInt8 := [132, 6, 1, 167, 255, 223, 42, 180, 0, 19, 21, 4, 92, 46, 21, 5, 130, 79, 132, 4, 1, 167, 255, 192]
abbrev dktX1_sets_4 : List UInt8 := dkwX1_sets_4 ++ dktX1_sets_5
def dkwX1_sets_3 : List UInt8 := [16, 8, 120, 42, 180, 0, 7, 29, 51, 17, 0, 255, 126, 128, 54, 5, 29, 4, 96, 28, 112, 62]
abbrev dktX1_sets_3 : List UInt8 := dkwX1_sets_3 ++ dktX1_sets_4
def dkwX1_sets_2 : List UInt8 := [54, 4, 21, 4, 16, 18, 162, 0, 63, 3, 54, 5, 3, 54, 6, 21, 6, 7, 162, 0, 33, 21, 5]
abbrev dktX1_sets_2 : List UInt8 := dkwX1_sets_2 ++ dktX1_sets_3
def dkwX1_sets_1 : List UInt8 := [162, 0, 22, 42, 180, 0, 19, 21, 4, 178, 0, 33, 21, 4, 46, 79, 132, 4, 1, 167, 255, 232, 3]
abbrev dktX1_sets_1 : List UInt8 := dkwX1_sets_1 ++ dktX1_sets_2
def dkwX1_sets_0 : List UInt8 := [16, 8, 16, 8, 27, 6, 126, 6, 112, 104, 96, 61, 3, 62, 3, 54, 4, 21, 4, 17, 4, 18]
abbrev dktX1_sets_0 : List UInt8 := dkwX1_sets_0 ++ dktX1_sets_1
theorem dksX1_sets_0 : cX1_sets.data.toList.drop 0 = dktX1_sets_0 := by decide +kernel
theorem dksX1_sets_1 : cX1_sets.data.toList.drop 22 = dktX1_sets_1 := dk_seg dksX1_sets_0 22 rfl rfl
theorem dksX1_sets_2 : cX1_sets.data.toList.drop 45 = dktX1_sets_2 := dk_seg dksX1_sets_1 23 rfl rfl
theorem dksX1_sets_3 : cX1_sets.data.toList.drop 68 = dktX1_sets_3 := dk_seg dksX1_sets_2 23 rfl rfl
theorem dksX1_sets_4 : cX1_sets.data.toList.drop 90 = dktX1_sets_4 := dk_seg dksX1_sets_3 22 rfl rfl
theorem dksX1_sets_5 : cX1_sets.data.toList.drop 114 = dktX1_sets_5 := dk_seg dksX1_sets_4 24 rfl rfl
theorem dksX1_sets_6 : cX1_sets.data.toList.drop 138 = dktX1_sets_6 := dk_seg dksX1_sets_5 24 rfl rfl
theorem dksX1_sets_7 : cX1_sets.data.toList.drop 161 = dktX1_sets_7 := dk_seg dksX1_sets_6 23 rfl rfl
theorem dX1_sets_0 : decode cX1_sets 0 = .ok (.bipush 8, 2) := dk_16 8 (dk_at dksX1_sets_0 0 rfl rfl)
theorem dX1_sets_2 : decode cX1_sets 2 = .ok (.bipush 8, 2) := dk_16 8 (dk_at dksX1_sets_0 2 rfl rfl)
theorem dX1_sets_4 : decode cX1_sets 4 = .ok (.iload_n 1, 1) := dk_27 (dk_at dksX1_sets_0 4 rfl rfl)
theorem dX1_sets_5 : decode cX1_sets 5 = .ok (.iconst 3, 1) := dk_6 (dk_at dksX1_sets_0 5 rfl rfl)
theorem dX1_sets_6 : decode cX1_sets 6 = .ok (.iand, 1) := dk_126 (dk_at dksX1_sets_0 6 rfl rfl)
theorem dX1_sets_7 : decode cX1_sets 7 = .ok (.iconst 3, 1) := dk_6 (dk_at dksX1_sets_0 7 rfl rfl)
theorem dX1_sets_8 : decode cX1_sets 8 = .ok (.irem, 1) := dk_112 (dk_at dksX1_sets_0 8 rfl rfl)
theorem dX1_sets_9 : decode cX1_sets 9 = .ok (.imul, 1) := dk_104 (dk_at dksX1_sets_0 9 rfl rfl)
theorem dX1_sets_10 : decode cX1_sets 10 = .ok (.iadd, 1) := dk_96 (dk_at dksX1_sets_0 10 rfl rfl)
theorem dX1_sets_11 : decode cX1_sets 11 = .ok (.istore_n 2, 1) := dk_61 (dk_at dksX1_sets_0 11 rfl rfl)
theorem dX1_sets_12 : decode cX1_sets 12 = .ok (.iconst 0, 1) := dk_3 (dk_at dksX1_sets_0 12 rfl rfl)
theorem dX1_sets_13 : decode cX1_sets 13 = .ok (.istore_n 3, 1) := dk_62 (dk_at dksX1_sets_0 13 rfl rfl)
theorem dX1_sets_14 : decode cX1_sets 14 = .ok (.iconst 0, 1) := dk_3 (dk_at dksX1_sets_0 14 rfl rfl)
theorem dX1_sets_15 : decode cX1_sets 15 = .ok (.istore 4, 2) := dk_54 4 (dk_at dksX1_sets_0 15 rfl rfl)
theorem dX1_sets_17 : decode cX1_sets 17 = .ok (.iload 4, 2) := dk_21 4 (dk_at dksX1_sets_0 17 rfl rfl)
theorem dX1_sets_19 : decode cX1_sets 19 = .ok (.sipush 1042, 3) := dk_17 4 18 (dk_at dksX1_sets_0 19 rfl rfl)
theorem dX1_sets_22 : decode cX1_sets 22 = .ok (.if_icmp .ge 22, 3) := dk_162 0 22 (dk_at dksX1_sets_1 0 rfl rfl)
theorem dX1_sets_25 : decode cX1_sets 25 = .ok (.aload_n 0, 1) := dk_42 (dk_at dksX1_sets_1 3 rfl rfl)
theorem dX1_sets_26 : decode cX1_sets 26 = .ok (.getfield 19, 3) := dk_180 0 19 (dk_at dksX1_sets_1 4 rfl rfl)
theorem dX1_sets_29 : decode cX1_sets 29 = .ok (.iload 4, 2) := dk_21 4 (dk_at dksX1_sets_1 7 rfl rfl)
theorem dX1_sets_31 : decode cX1_sets 31 = .ok (.getstatic 33, 3) := dk_178 0 33 (dk_at dksX1_sets_1 9 rfl rfl)
theorem dX1_sets_34 : decode cX1_sets 34 = .ok (.iload 4, 2) := dk_21 4 (dk_at dksX1_sets_1 12 rfl rfl)
theorem dX1_sets_36 : decode cX1_sets 36 = .ok (.iaload, 1) := dk_46 (dk_at dksX1_sets_1 14 rfl rfl)
theorem dX1_sets_37 : decode cX1_sets 37 = .ok (.iastore, 1) := dk_79 (dk_at dksX1_sets_1 15 rfl rfl)
theorem dX1_sets_38 : decode cX1_sets 38 = .ok (.iinc 4 1, 3) := dk_132 4 1 (dk_at dksX1_sets_1 16 rfl rfl)
theorem dX1_sets_41 : decode cX1_sets 41 = .ok (.goto (-24), 3) := dk_167 255 232 (dk_at dksX1_sets_1 19 rfl rfl)
theorem dX1_sets_44 : decode cX1_sets 44 = .ok (.iconst 0, 1) := dk_3 (dk_at dksX1_sets_1 22 rfl rfl)
theorem dX1_sets_45 : decode cX1_sets 45 = .ok (.istore 4, 2) := dk_54 4 (dk_at dksX1_sets_2 0 rfl rfl)
theorem dX1_sets_47 : decode cX1_sets 47 = .ok (.iload 4, 2) := dk_21 4 (dk_at dksX1_sets_2 2 rfl rfl)
theorem dX1_sets_49 : decode cX1_sets 49 = .ok (.bipush 18, 2) := dk_16 18 (dk_at dksX1_sets_2 4 rfl rfl)
theorem dX1_sets_51 : decode cX1_sets 51 = .ok (.if_icmp .ge 63, 3) := dk_162 0 63 (dk_at dksX1_sets_2 6 rfl rfl)
theorem dX1_sets_54 : decode cX1_sets 54 = .ok (.iconst 0, 1) := dk_3 (dk_at dksX1_sets_2 9 rfl rfl)
theorem dX1_sets_55 : decode cX1_sets 55 = .ok (.istore 5, 2) := dk_54 5 (dk_at dksX1_sets_2 10 rfl rfl)
theorem dX1_sets_57 : decode cX1_sets 57 = .ok (.iconst 0, 1) := dk_3 (dk_at dksX1_sets_2 12 rfl rfl)
theorem dX1_sets_58 : decode cX1_sets 58 = .ok (.istore 6, 2) := dk_54 6 (dk_at dksX1_sets_2 13 rfl rfl)
theorem dX1_sets_60 : decode cX1_sets 60 = .ok (.iload 6, 2) := dk_21 6 (dk_at dksX1_sets_2 15 rfl rfl)
theorem dX1_sets_62 : decode cX1_sets 62 = .ok (.iconst 4, 1) := dk_7 (dk_at dksX1_sets_2 17 rfl rfl)
theorem dX1_sets_63 : decode cX1_sets 63 = .ok (.if_icmp .ge 33, 3) := dk_162 0 33 (dk_at dksX1_sets_2 18 rfl rfl)
theorem dX1_sets_66 : decode cX1_sets 66 = .ok (.iload 5, 2) := dk_21 5 (dk_at dksX1_sets_2 21 rfl rfl)
theorem dX1_sets_68 : decode cX1_sets 68 = .ok (.bipush 8, 2) := dk_16 8 (dk_at dksX1_sets_3 0 rfl rfl)
theorem dX1_sets_70 : decode cX1_sets 70 = .ok (.ishl, 1) := dk_120 (dk_at dksX1_sets_3 2 rfl rfl)
theorem dX1_sets_71 : decode cX1_sets 71 = .ok (.aload_n 0, 1) := dk_42 (dk_at dksX1_sets_3 3 rfl rfl)
theorem dX1_sets_72 : decode cX1_sets 72 = .ok (.getfield 7, 3) := dk_180 0 7 (dk_at dksX1_sets_3 4 rfl rfl)
theorem dX1_sets_75 : decode cX1_sets 75 = .ok (.iload_n 3, 1) := dk_29 (dk_at dksX1_sets_3 7 rfl rfl)
theorem dX1_sets_76 : decode cX1_sets 76 = .ok (.baload, 1) := dk_51 (dk_at dksX1_sets_3 8 rfl rfl)
theorem dX1_sets_77 : decode cX1_sets 77 = .ok (.sipush 255, 3) := dk_17 0 255 (dk_at dksX1_sets_3 9 rfl rfl)
theorem dX1_sets_80 : decode cX1_sets 80 = .ok (.iand, 1) := dk_126 (dk_at dksX1_sets_3 12 rfl rfl)
theorem dX1_sets_81 : decode cX1_sets 81 = .ok (.ior, 1) := dk_128 (dk_at dksX1_sets_3 13 rfl rfl)
theorem dX1_sets_82 : decode cX1_sets 82 = .ok (.istore 5, 2) := dk_54 5 (dk_at dksX1_sets_3 14 rfl rfl)
theorem dX1_sets_84 : decode cX1_sets 84 = .ok (.iload_n 3, 1) := dk_29 (dk_at dksX1_sets_3 16 rfl rfl)
theorem dX1_sets_85 : decode cX1_sets 85 = .ok (.iconst 1, 1) := dk_4 (dk_at dksX1_sets_3 17 rfl rfl)
theorem dX1_sets_86 : decode cX1_sets 86 = .ok (.iadd, 1) := dk_96 (dk_at dksX1_sets_3 18 rfl rfl)
theorem dX1_sets_87 : decode cX1_sets 87 = .ok (.iload_n 2, 1) := dk_28 (dk_at dksX1_sets_3 19 rfl rfl)
theorem dX1_sets_88 : decode cX1_sets 88 = .ok (.irem, 1) := dk_112 (dk_at dksX1_sets_3 20 rfl rfl)
theorem dX1_sets_89 : decode cX1_sets 89 = .ok (.istore_n 3, 1) := dk_62 (dk_at dksX1_sets_3 21 rfl rfl)
theorem dX1_sets_90 : decode cX1_sets 90 = .ok (.iinc 6 1, 3) := dk_132 6 1 (dk_at dksX1_sets_4 0 rfl rfl)
theorem dX1_sets_93 : decode cX1_sets 93 = .ok (.goto (-33), 3) := dk_167 255 223 (dk_at dksX1_sets_4 3 rfl rfl)
theorem dX1_sets_96 : decode cX1_sets 96 = .ok (.aload_n 0, 1) := dk_42 (dk_at dksX1_sets_4 6 rfl rfl)
theorem dX1_sets_97 : decode cX1_sets 97 = .ok (.getfield 19, 3) := dk_180 0 19 (dk_at dksX1_sets_4 7 rfl rfl)
theorem dX1_sets_100 : decode cX1_sets 100 = .ok (.iload 4, 2) := dk_21 4 (dk_at dksX1_sets_4 10 rfl rfl)
theorem dX1_sets_102 : decode cX1_sets 102 = .ok (.dup2, 1) := dk_92 (dk_at dksX1_sets_4 12 rfl rfl)
theorem dX1_sets_103 : decode cX1_sets 103 = .ok (.iaload, 1) := dk_46 (dk_at dksX1_sets_4 13 rfl rfl)
theorem dX1_sets_104 : decode cX1_sets 104 = .ok (.iload 5, 2) := dk_21 5 (dk_at dksX1_sets_4 14 rfl rfl)
theorem dX1_sets_106 : decode cX1_sets 106 = .ok (.ixor, 1) := dk_130 (dk_at dksX1_sets_4 16 rfl rfl)
theorem dX1_sets_107 : decode cX1_sets 107 = .ok (.iastore, 1) := dk_79 (dk_at dksX1_sets_4 17 rfl rfl)
theorem dX1_sets_108 : decode cX1_sets 108 = .ok (.iinc 4 1, 3) := dk_132 4 1 (dk_at dksX1_sets_4 18 rfl rfl)
theorem dX1_sets_111 : decode cX1_sets 111 = .ok (.goto (-64), 3) := dk_167 255 192 (dk_at dksX1_sets_4 21 rfl rfl)
theorem dX1_sets_114 : decode cX1_sets 114 = .ok (.lconst 0, 1) := dk_9 (dk_at dksX1_sets_5 0 rfl rfl)
theorem dX1_sets_115 : decode cX1_sets 115 = .ok (.lstore 4, 2) := dk_55 4 (dk_at dksX1_sets_5 1 rfl rfl)
theorem dX1_sets_117 : decode cX1_sets 117 = .ok (.iconst 0, 1) := dk_3 (dk_at dksX1_sets_5 3 rfl rfl)
theorem dX1_sets_118 : decode cX1_sets 118 = .ok (.istore 6, 2) := dk_54 6 (dk_at dksX1_sets_5 4 rfl rfl)
theorem dX1_sets_120 : decode cX1_sets 120 = .ok (.iload 6, 2) := dk_21 6 (dk_at dksX1_sets_5 6 rfl rfl)
theorem dX1_sets_122 : decode cX1_sets 122 = .ok (.sipush 1042, 3) := dk_17 4 18 (dk_at dksX1_sets_5 8 rfl rfl)
theorem dX1_sets_125 : decode cX1_sets 125 = .ok (.if_icmp .ge 50, 3) := dk_162 0 50 (dk_at dksX1_sets_5 11 rfl rfl)
theorem dX1_sets_128 : decode cX1_sets 128 = .ok (.aload_n 0, 1) := dk_42 (dk_at dksX1_sets_5 14 rfl rfl)
theorem dX1_sets_129 : decode cX1_sets 129 = .ok (.lload 4, 2) := dk_22 4 (dk_at dksX1_sets_5 15 rfl rfl)
theorem dX1_sets_131 : decode cX1_sets 131 = .ok (.bipush 32, 2) := dk_16 32 (dk_at dksX1_sets_5 17 rfl rfl)
theorem dX1_sets_133 : decode cX1_sets 133 = .ok (.lushr, 1) := dk_125 (dk_at dksX1_sets_5 19 rfl rfl)
theorem dX1_sets_134 : decode cX1_sets 134 = .ok (.l2i, 1) := dk_136 (dk_at dksX1_sets_5 20 rfl rfl)
theorem dX1_sets_135 : decode cX1_sets 135 = .ok (.lload 4, 2) := dk_22 4 (dk_at dksX1_sets_5 21 rfl rfl)
theorem dX1_sets_137 : decode cX1_sets 137 = .ok (.l2i, 1) := dk_136 (dk_at dksX1_sets_5 23 rfl rfl)
theorem dX1_sets_138 : decode cX1_sets 138 = .ok (.iconst 1, 1) := dk_4 (dk_at dksX1_sets_6 0 rfl rfl)
theorem dX1_sets_139 : decode cX1_sets 139 = .ok (.invokevirtual 36, 3) := dk_182 0 36 (dk_at dksX1_sets_6 1 rfl rfl)
theorem dX1_sets_142 : decode cX1_sets 142 = .ok (.lstore 4, 2) := dk_55 4 (dk_at dksX1_sets_6 4 rfl rfl)
theorem dX1_sets_144 : decode cX1_sets 144 = .ok (.aload_n 0, 1) := dk_42 (dk_at dksX1_sets_6 6 rfl rfl)
theorem dX1_sets_145 : decode cX1_sets 145 = .ok (.getfield 19, 3) := dk_180 0 19 (dk_at dksX1_sets_6 7 rfl rfl)
theorem dX1_sets_148 : decode cX1_sets 148 = .ok (.iload 6, 2) := dk_21 6 (dk_at dksX1_sets_6 10 rfl rfl)
theorem dX1_sets_150 : decode cX1_sets 150 = .ok (.lload 4, 2) := dk_22 4 (dk_at dksX1_sets_6 12 rfl rfl)
theorem dX1_sets_152 : decode cX1_sets 152 = .ok (.bipush 32, 2) := dk_16 32 (dk_at dksX1_sets_6 14 rfl rfl)
theorem dX1_sets_154 : decode cX1_sets 154 = .ok (.lushr, 1) := dk_125 (dk_at dksX1_sets_6 16 rfl rfl)
theorem dX1_sets_155 : decode cX1_sets 155 = .ok (.l2i, 1) := dk_136 (dk_at dksX1_sets_6 17 rfl rfl)
theorem dX1_sets_156 : decode cX1_sets 156 = .ok (.iastore, 1) := dk_79 (dk_at dksX1_sets_6 18 rfl rfl)
theorem dX1_sets_157 : decode cX1_sets 157 = .ok (.aload_n 0, 1) := dk_42 (dk_at dksX1_sets_6 19 rfl rfl)
theorem dX1_sets_158 : decode cX1_sets 158 = .ok (.getfield 19, 3) := dk_180 0 19 (dk_at dksX1_sets_6 20 rfl rfl)
theorem dX1_sets_161 : decode cX1_sets 161 = .ok (.iload 6, 2) := dk_21 6 (dk_at dksX1_sets_7 0 rfl rfl)
theorem dX1_sets_163 : decode cX1_sets 163 = .ok (.iconst 1, 1) := dk_4 (dk_at dksX1_sets_7 2 rfl rfl)
theorem dX1_sets_164 : decode cX1_sets 164 = .ok (.iadd, 1) := dk_96 (dk_at dksX1_sets_7 3 rfl rfl)
theorem dX1_sets_165 : decode cX1_sets 165 = .ok (.lload 4, 2) := dk_22 4 (dk_at dksX1_sets_7 4 rfl rfl)
theorem dX1_sets_167 : decode cX1_sets 167 = .ok (.l2i, 1) := dk_136 (dk_at dksX1_sets_7 6 rfl rfl)
theorem dX1_sets_168 : decode cX1_sets 168 = .ok (.iastore, 1) := dk_79 (dk_at dksX1_sets_7 7 rfl rfl)
theorem dX1_sets_169 : decode cX1_sets 169 = .ok (.iinc 6 2, 3) := dk_132 6 2 (dk_at dksX1_sets_7 8 rfl rfl)
theorem dX1_sets_172 : decode cX1_sets 172 = .ok (.goto (-52), 3) := dk_167 255 204 (dk_at dksX1_sets_7 11 rfl rfl)
theorem dX1_sets_175 : decode cX1_sets 175 = .ok (.return_, 1) := dk_177 (dk_at dksX1_sets_7 14 rfl rfl)
abbrev cX1_runs_2 : ByteArray := prog_4_method_7_code
def yX1_runs_2 : MethodName := ⟨RX1, "runs", "(IIZ)J"⟩
def dkwX1_runs_2_5 : List UInt8 := [21, 7, 133, 20, 0, 31, 127, 129, 173]
abbrev dktX1_runs_2_5 : List UInt8 := dkwX1_runs_2_5 ++ []
def dkwX1_runs_2_4 : List UInt8 := [180, 0, 19, 29, 153, 0, 8, 16, 16, 167, 0, 4, 4, 46, 130, 54, 7, 21, 6, 133, 16, 32, 121]
abbrev dktX1_runs_2_4 : List UInt8 := dkwX1_runs_2_4 ++ dktX1_runs_2_5
def dkwX1_runs_2_3 : List UInt8 := [21, 5, 42, 180, 0, 19, 29, 153, 0, 8, 16, 17, 167, 0, 4, 3, 46, 130, 54, 6, 21, 4, 42]
abbrev dktX1_runs_2_3 : List UInt8 := dkwX1_runs_2_3 ++ dktX1_runs_2_4
def dkwX1_runs_2_2 : List UInt8 := [182, 0, 27, 130, 54, 5, 21, 4, 54, 7, 21, 5, 54, 4, 21, 7, 54, 5, 132, 6, 1, 167, 255, 199]
abbrev dktX1_runs_2_2 : List UInt8 := dkwX1_runs_2_2 ++ dktX1_runs_2_3
def dkwX1_runs_2_1 : List UInt8 := [153, 0, 8, 21, 6, 167, 0, 8, 16, 17, 21, 6, 100, 46, 130, 54, 4, 21, 5, 42, 21, 4]
abbrev dktX1_runs_2_1 : List UInt8 := dkwX1_runs_2_1 ++ dktX1_runs_2_2
def dkwX1_runs_2_0 : List UInt8 := [27, 54, 4, 28, 54, 5, 3, 54, 6, 21, 6, 16, 16, 162, 0, 56, 21, 4, 42, 180, 0, 19, 29]
abbrev dktX1_runs_2_0 : List UInt8 := dkwX1_runs_2_0 ++ dktX1_runs_2_1
theorem dksX1_runs_2_0 : cX1_runs_2.data.toList.drop 0 = dktX1_runs_2_0 := by decide +kernel
theorem dksX1_runs_2_1 : cX1_runs_2.data.toList.drop 23 = dktX1_runs_2_1 := dk_seg dksX1_runs_2_0 23 rfl rfl
theorem dksX1_runs_2_2 : cX1_runs_2.data.toList.drop 45 = dktX1_runs_2_2 := dk_seg dksX1_runs_2_1 22 rfl rfl
theorem dksX1_runs_2_3 : cX1_runs_2.data.toList.drop 69 = dktX1_runs_2_3 := dk_seg dksX1_runs_2_2 24 rfl rfl
theorem dksX1_runs_2_4 : cX1_runs_2.data.toList.drop 92 = dktX1_runs_2_4 := dk_seg dksX1_runs_2_3 23 rfl rfl
theorem dksX1_runs_2_5 : cX1_runs_2.data.toList.drop 115 = dktX1_runs_2_5 := dk_seg dksX1_runs_2_4 23 rfl rfl
theorem dX1_runs_2_0 : decode cX1_runs_2 0 = .ok (.iload_n 1, 1) := dk_27 (dk_at dksX1_runs_2_0 0 rfl rfl)
theorem dX1_runs_2_1 : decode cX1_runs_2 1 = .ok (.istore 4, 2) := dk_54 4 (dk_at dksX1_runs_2_0 1 rfl rfl)
theorem dX1_runs_2_3 : decode cX1_runs_2 3 = .ok (.iload_n 2, 1) := dk_28 (dk_at dksX1_runs_2_0 3 rfl rfl)
theorem dX1_runs_2_4 : decode cX1_runs_2 4 = .ok (.istore 5, 2) := dk_54 5 (dk_at dksX1_runs_2_0 4 rfl rfl)
theorem dX1_runs_2_6 : decode cX1_runs_2 6 = .ok (.iconst 0, 1) := dk_3 (dk_at dksX1_runs_2_0 6 rfl rfl)
theorem dX1_runs_2_7 : decode cX1_runs_2 7 = .ok (.istore 6, 2) := dk_54 6 (dk_at dksX1_runs_2_0 7 rfl rfl)
theorem dX1_runs_2_9 : decode cX1_runs_2 9 = .ok (.iload 6, 2) := dk_21 6 (dk_at dksX1_runs_2_0 9 rfl rfl)
theorem dX1_runs_2_11 : decode cX1_runs_2 11 = .ok (.bipush 16, 2) := dk_16 16 (dk_at dksX1_runs_2_0 11 rfl rfl)
theorem dX1_runs_2_13 : decode cX1_runs_2 13 = .ok (.if_icmp .ge 56, 3) := dk_162 0 56 (dk_at dksX1_runs_2_0 13 rfl rfl)
theorem dX1_runs_2_16 : decode cX1_runs_2 16 = .ok (.iload 4, 2) := dk_21 4 (dk_at dksX1_runs_2_0 16 rfl rfl)
theorem dX1_runs_2_18 : decode cX1_runs_2 18 = .ok (.aload_n 0, 1) := dk_42 (dk_at dksX1_runs_2_0 18 rfl rfl)
theorem dX1_runs_2_19 : decode cX1_runs_2 19 = .ok (.getfield 19, 3) := dk_180 0 19 (dk_at dksX1_runs_2_0 19 rfl rfl)
theorem dX1_runs_2_22 : decode cX1_runs_2 22 = .ok (.iload_n 3, 1) := dk_29 (dk_at dksX1_runs_2_0 22 rfl rfl)
theorem dX1_runs_2_23 : decode cX1_runs_2 23 = .ok (.ifCond .eq 8, 3) := dk_153 0 8 (dk_at dksX1_runs_2_1 0 rfl rfl)
theorem dX1_runs_2_26 : decode cX1_runs_2 26 = .ok (.iload 6, 2) := dk_21 6 (dk_at dksX1_runs_2_1 3 rfl rfl)
theorem dX1_runs_2_28 : decode cX1_runs_2 28 = .ok (.goto 8, 3) := dk_167 0 8 (dk_at dksX1_runs_2_1 5 rfl rfl)
theorem dX1_runs_2_31 : decode cX1_runs_2 31 = .ok (.bipush 17, 2) := dk_16 17 (dk_at dksX1_runs_2_1 8 rfl rfl)
theorem dX1_runs_2_33 : decode cX1_runs_2 33 = .ok (.iload 6, 2) := dk_21 6 (dk_at dksX1_runs_2_1 10 rfl rfl)
theorem dX1_runs_2_35 : decode cX1_runs_2 35 = .ok (.isub, 1) := dk_100 (dk_at dksX1_runs_2_1 12 rfl rfl)
theorem dX1_runs_2_36 : decode cX1_runs_2 36 = .ok (.iaload, 1) := dk_46 (dk_at dksX1_runs_2_1 13 rfl rfl)
theorem dX1_runs_2_37 : decode cX1_runs_2 37 = .ok (.ixor, 1) := dk_130 (dk_at dksX1_runs_2_1 14 rfl rfl)
theorem dX1_runs_2_38 : decode cX1_runs_2 38 = .ok (.istore 4, 2) := dk_54 4 (dk_at dksX1_runs_2_1 15 rfl rfl)
theorem dX1_runs_2_40 : decode cX1_runs_2 40 = .ok (.iload 5, 2) := dk_21 5 (dk_at dksX1_runs_2_1 17 rfl rfl)
theorem dX1_runs_2_42 : decode cX1_runs_2 42 = .ok (.aload_n 0, 1) := dk_42 (dk_at dksX1_runs_2_1 19 rfl rfl)
theorem dX1_runs_2_43 : decode cX1_runs_2 43 = .ok (.iload 4, 2) := dk_21 4 (dk_at dksX1_runs_2_1 20 rfl rfl)
theorem dX1_runs_2_45 : decode cX1_runs_2 45 = .ok (.invokevirtual 27, 3) := dk_182 0 27 (dk_at dksX1_runs_2_2 0 rfl rfl)
theorem dX1_runs_2_48 : decode cX1_runs_2 48 = .ok (.ixor, 1) := dk_130 (dk_at dksX1_runs_2_2 3 rfl rfl)
theorem dX1_runs_2_49 : decode cX1_runs_2 49 = .ok (.istore 5, 2) := dk_54 5 (dk_at dksX1_runs_2_2 4 rfl rfl)
theorem dX1_runs_2_51 : decode cX1_runs_2 51 = .ok (.iload 4, 2) := dk_21 4 (dk_at dksX1_runs_2_2 6 rfl rfl)
theorem dX1_runs_2_53 : decode cX1_runs_2 53 = .ok (.istore 7, 2) := dk_54 7 (dk_at dksX1_runs_2_2 8 rfl rfl)
theorem dX1_runs_2_55 : decode cX1_runs_2 55 = .ok (.iload 5, 2) := dk_21 5 (dk_at dksX1_runs_2_2 10 rfl rfl)
theorem dX1_runs_2_57 : decode cX1_runs_2 57 = .ok (.istore 4, 2) := dk_54 4 (dk_at dksX1_runs_2_2 12 rfl rfl)
theorem dX1_runs_2_59 : decode cX1_runs_2 59 = .ok (.iload 7, 2) := dk_21 7 (dk_at dksX1_runs_2_2 14 rfl rfl)
theorem dX1_runs_2_61 : decode cX1_runs_2 61 = .ok (.istore 5, 2) := dk_54 5 (dk_at dksX1_runs_2_2 16 rfl rfl)
theorem dX1_runs_2_63 : decode cX1_runs_2 63 = .ok (.iinc 6 1, 3) := dk_132 6 1 (dk_at dksX1_runs_2_2 18 rfl rfl)
theorem dX1_runs_2_66 : decode cX1_runs_2 66 = .ok (.goto (-57), 3) := dk_167 255 199 (dk_at dksX1_runs_2_2 21 rfl rfl)
theorem dX1_runs_2_69 : decode cX1_runs_2 69 = .ok (.iload 5, 2) := dk_21 5 (dk_at dksX1_runs_2_3 0 rfl rfl)
theorem dX1_runs_2_71 : decode cX1_runs_2 71 = .ok (.aload_n 0, 1) := dk_42 (dk_at dksX1_runs_2_3 2 rfl rfl)
theorem dX1_runs_2_72 : decode cX1_runs_2 72 = .ok (.getfield 19, 3) := dk_180 0 19 (dk_at dksX1_runs_2_3 3 rfl rfl)
theorem dX1_runs_2_75 : decode cX1_runs_2 75 = .ok (.iload_n 3, 1) := dk_29 (dk_at dksX1_runs_2_3 6 rfl rfl)
theorem dX1_runs_2_76 : decode cX1_runs_2 76 = .ok (.ifCond .eq 8, 3) := dk_153 0 8 (dk_at dksX1_runs_2_3 7 rfl rfl)
theorem dX1_runs_2_79 : decode cX1_runs_2 79 = .ok (.bipush 17, 2) := dk_16 17 (dk_at dksX1_runs_2_3 10 rfl rfl)
theorem dX1_runs_2_81 : decode cX1_runs_2 81 = .ok (.goto 4, 3) := dk_167 0 4 (dk_at dksX1_runs_2_3 12 rfl rfl)
theorem dX1_runs_2_84 : decode cX1_runs_2 84 = .ok (.iconst 0, 1) := dk_3 (dk_at dksX1_runs_2_3 15 rfl rfl)
theorem dX1_runs_2_85 : decode cX1_runs_2 85 = .ok (.iaload, 1) := dk_46 (dk_at dksX1_runs_2_3 16 rfl rfl)
theorem dX1_runs_2_86 : decode cX1_runs_2 86 = .ok (.ixor, 1) := dk_130 (dk_at dksX1_runs_2_3 17 rfl rfl)
theorem dX1_runs_2_87 : decode cX1_runs_2 87 = .ok (.istore 6, 2) := dk_54 6 (dk_at dksX1_runs_2_3 18 rfl rfl)
theorem dX1_runs_2_89 : decode cX1_runs_2 89 = .ok (.iload 4, 2) := dk_21 4 (dk_at dksX1_runs_2_3 20 rfl rfl)
theorem dX1_runs_2_91 : decode cX1_runs_2 91 = .ok (.aload_n 0, 1) := dk_42 (dk_at dksX1_runs_2_3 22 rfl rfl)
theorem dX1_runs_2_92 : decode cX1_runs_2 92 = .ok (.getfield 19, 3) := dk_180 0 19 (dk_at dksX1_runs_2_4 0 rfl rfl)
theorem dX1_runs_2_95 : decode cX1_runs_2 95 = .ok (.iload_n 3, 1) := dk_29 (dk_at dksX1_runs_2_4 3 rfl rfl)
theorem dX1_runs_2_96 : decode cX1_runs_2 96 = .ok (.ifCond .eq 8, 3) := dk_153 0 8 (dk_at dksX1_runs_2_4 4 rfl rfl)
theorem dX1_runs_2_99 : decode cX1_runs_2 99 = .ok (.bipush 16, 2) := dk_16 16 (dk_at dksX1_runs_2_4 7 rfl rfl)
theorem dX1_runs_2_101 : decode cX1_runs_2 101 = .ok (.goto 4, 3) := dk_167 0 4 (dk_at dksX1_runs_2_4 9 rfl rfl)
theorem dX1_runs_2_104 : decode cX1_runs_2 104 = .ok (.iconst 1, 1) := dk_4 (dk_at dksX1_runs_2_4 12 rfl rfl)
theorem dX1_runs_2_105 : decode cX1_runs_2 105 = .ok (.iaload, 1) := dk_46 (dk_at dksX1_runs_2_4 13 rfl rfl)
theorem dX1_runs_2_106 : decode cX1_runs_2 106 = .ok (.ixor, 1) := dk_130 (dk_at dksX1_runs_2_4 14 rfl rfl)
theorem dX1_runs_2_107 : decode cX1_runs_2 107 = .ok (.istore 7, 2) := dk_54 7 (dk_at dksX1_runs_2_4 15 rfl rfl)
theorem dX1_runs_2_109 : decode cX1_runs_2 109 = .ok (.iload 6, 2) := dk_21 6 (dk_at dksX1_runs_2_4 17 rfl rfl)
theorem dX1_runs_2_111 : decode cX1_runs_2 111 = .ok (.i2l, 1) := dk_133 (dk_at dksX1_runs_2_4 19 rfl rfl)
theorem dX1_runs_2_112 : decode cX1_runs_2 112 = .ok (.bipush 32, 2) := dk_16 32 (dk_at dksX1_runs_2_4 20 rfl rfl)
theorem dX1_runs_2_114 : decode cX1_runs_2 114 = .ok (.lshl, 1) := dk_121 (dk_at dksX1_runs_2_4 22 rfl rfl)
theorem dX1_runs_2_115 : decode cX1_runs_2 115 = .ok (.iload 7, 2) := dk_21 7 (dk_at dksX1_runs_2_5 0 rfl rfl)
theorem dX1_runs_2_117 : decode cX1_runs_2 117 = .ok (.i2l, 1) := dk_133 (dk_at dksX1_runs_2_5 2 rfl rfl)
theorem dX1_runs_2_118 : decode cX1_runs_2 118 = .ok (.ldc2_w 31, 3) := dk_20 0 31 (dk_at dksX1_runs_2_5 3 rfl rfl)
theorem dX1_runs_2_121 : decode cX1_runs_2 121 = .ok (.land, 1) := dk_127 (dk_at dksX1_runs_2_5 6 rfl rfl)
theorem dX1_runs_2_122 : decode cX1_runs_2 122 = .ok (.lor, 1) := dk_129 (dk_at dksX1_runs_2_5 7 rfl rfl)
theorem dX1_runs_2_123 : decode cX1_runs_2 123 = .ok (.lreturn, 1) := dk_173 (dk_at dksX1_runs_2_5 8 rfl rfl)
abbrev cX1_mixed : ByteArray := prog_4_method_6_code
def yX1_mixed : MethodName := ⟨RX1, "mixed", "(I)I"⟩
def dkwX1_mixed_2 : List UInt8 := [96, 46, 130, 42, 180, 0, 19, 17, 3, 18, 27, 17, 0, 255, 126, 96, 46, 96, 172]
abbrev dktX1_mixed_2 : List UInt8 := dkwX1_mixed_2 ++ []
def dkwX1_mixed_1 : List UInt8 := [17, 0, 255, 126, 96, 46, 96, 61, 28, 42, 180, 0, 19, 17, 2, 18, 27, 16, 8, 124, 17, 0, 255, 126]
abbrev dktX1_mixed_1 : List UInt8 := dkwX1_mixed_1 ++ dktX1_mixed_2
def dkwX1_mixed_0 : List UInt8 := [42, 180, 0, 19, 16, 18, 27, 16, 24, 124, 96, 46, 42, 180, 0, 19, 17, 1, 18, 27, 16, 16, 124]
abbrev dktX1_mixed_0 : List UInt8 := dkwX1_mixed_0 ++ dktX1_mixed_1
theorem dksX1_mixed_0 : cX1_mixed.data.toList.drop 0 = dktX1_mixed_0 := by decide +kernel
theorem dksX1_mixed_1 : cX1_mixed.data.toList.drop 23 = dktX1_mixed_1 := dk_seg dksX1_mixed_0 23 rfl rfl
theorem dksX1_mixed_2 : cX1_mixed.data.toList.drop 47 = dktX1_mixed_2 := dk_seg dksX1_mixed_1 24 rfl rfl
theorem dX1_mixed_0 : decode cX1_mixed 0 = .ok (.aload_n 0, 1) := dk_42 (dk_at dksX1_mixed_0 0 rfl rfl)
theorem dX1_mixed_1 : decode cX1_mixed 1 = .ok (.getfield 19, 3) := dk_180 0 19 (dk_at dksX1_mixed_0 1 rfl rfl)
theorem dX1_mixed_4 : decode cX1_mixed 4 = .ok (.bipush 18, 2) := dk_16 18 (dk_at dksX1_mixed_0 4 rfl rfl)
theorem dX1_mixed_6 : decode cX1_mixed 6 = .ok (.iload_n 1, 1) := dk_27 (dk_at dksX1_mixed_0 6 rfl rfl)
theorem dX1_mixed_7 : decode cX1_mixed 7 = .ok (.bipush 24, 2) := dk_16 24 (dk_at dksX1_mixed_0 7 rfl rfl)
theorem dX1_mixed_9 : decode cX1_mixed 9 = .ok (.iushr, 1) := dk_124 (dk_at dksX1_mixed_0 9 rfl rfl)
theorem dX1_mixed_10 : decode cX1_mixed 10 = .ok (.iadd, 1) := dk_96 (dk_at dksX1_mixed_0 10 rfl rfl)
theorem dX1_mixed_11 : decode cX1_mixed 11 = .ok (.iaload, 1) := dk_46 (dk_at dksX1_mixed_0 11 rfl rfl)
theorem dX1_mixed_12 : decode cX1_mixed 12 = .ok (.aload_n 0, 1) := dk_42 (dk_at dksX1_mixed_0 12 rfl rfl)
theorem dX1_mixed_13 : decode cX1_mixed 13 = .ok (.getfield 19, 3) := dk_180 0 19 (dk_at dksX1_mixed_0 13 rfl rfl)
theorem dX1_mixed_16 : decode cX1_mixed 16 = .ok (.sipush 274, 3) := dk_17 1 18 (dk_at dksX1_mixed_0 16 rfl rfl)
theorem dX1_mixed_19 : decode cX1_mixed 19 = .ok (.iload_n 1, 1) := dk_27 (dk_at dksX1_mixed_0 19 rfl rfl)
theorem dX1_mixed_20 : decode cX1_mixed 20 = .ok (.bipush 16, 2) := dk_16 16 (dk_at dksX1_mixed_0 20 rfl rfl)
theorem dX1_mixed_22 : decode cX1_mixed 22 = .ok (.iushr, 1) := dk_124 (dk_at dksX1_mixed_0 22 rfl rfl)
theorem dX1_mixed_23 : decode cX1_mixed 23 = .ok (.sipush 255, 3) := dk_17 0 255 (dk_at dksX1_mixed_1 0 rfl rfl)
theorem dX1_mixed_26 : decode cX1_mixed 26 = .ok (.iand, 1) := dk_126 (dk_at dksX1_mixed_1 3 rfl rfl)
theorem dX1_mixed_27 : decode cX1_mixed 27 = .ok (.iadd, 1) := dk_96 (dk_at dksX1_mixed_1 4 rfl rfl)
theorem dX1_mixed_28 : decode cX1_mixed 28 = .ok (.iaload, 1) := dk_46 (dk_at dksX1_mixed_1 5 rfl rfl)
theorem dX1_mixed_29 : decode cX1_mixed 29 = .ok (.iadd, 1) := dk_96 (dk_at dksX1_mixed_1 6 rfl rfl)
theorem dX1_mixed_30 : decode cX1_mixed 30 = .ok (.istore_n 2, 1) := dk_61 (dk_at dksX1_mixed_1 7 rfl rfl)
theorem dX1_mixed_31 : decode cX1_mixed 31 = .ok (.iload_n 2, 1) := dk_28 (dk_at dksX1_mixed_1 8 rfl rfl)
theorem dX1_mixed_32 : decode cX1_mixed 32 = .ok (.aload_n 0, 1) := dk_42 (dk_at dksX1_mixed_1 9 rfl rfl)
theorem dX1_mixed_33 : decode cX1_mixed 33 = .ok (.getfield 19, 3) := dk_180 0 19 (dk_at dksX1_mixed_1 10 rfl rfl)
theorem dX1_mixed_36 : decode cX1_mixed 36 = .ok (.sipush 530, 3) := dk_17 2 18 (dk_at dksX1_mixed_1 13 rfl rfl)
theorem dX1_mixed_39 : decode cX1_mixed 39 = .ok (.iload_n 1, 1) := dk_27 (dk_at dksX1_mixed_1 16 rfl rfl)
theorem dX1_mixed_40 : decode cX1_mixed 40 = .ok (.bipush 8, 2) := dk_16 8 (dk_at dksX1_mixed_1 17 rfl rfl)
theorem dX1_mixed_42 : decode cX1_mixed 42 = .ok (.iushr, 1) := dk_124 (dk_at dksX1_mixed_1 19 rfl rfl)
theorem dX1_mixed_43 : decode cX1_mixed 43 = .ok (.sipush 255, 3) := dk_17 0 255 (dk_at dksX1_mixed_1 20 rfl rfl)
theorem dX1_mixed_46 : decode cX1_mixed 46 = .ok (.iand, 1) := dk_126 (dk_at dksX1_mixed_1 23 rfl rfl)
theorem dX1_mixed_47 : decode cX1_mixed 47 = .ok (.iadd, 1) := dk_96 (dk_at dksX1_mixed_2 0 rfl rfl)
theorem dX1_mixed_48 : decode cX1_mixed 48 = .ok (.iaload, 1) := dk_46 (dk_at dksX1_mixed_2 1 rfl rfl)
theorem dX1_mixed_49 : decode cX1_mixed 49 = .ok (.ixor, 1) := dk_130 (dk_at dksX1_mixed_2 2 rfl rfl)
theorem dX1_mixed_50 : decode cX1_mixed 50 = .ok (.aload_n 0, 1) := dk_42 (dk_at dksX1_mixed_2 3 rfl rfl)
theorem dX1_mixed_51 : decode cX1_mixed 51 = .ok (.getfield 19, 3) := dk_180 0 19 (dk_at dksX1_mixed_2 4 rfl rfl)
theorem dX1_mixed_54 : decode cX1_mixed 54 = .ok (.sipush 786, 3) := dk_17 3 18 (dk_at dksX1_mixed_2 7 rfl rfl)
theorem dX1_mixed_57 : decode cX1_mixed 57 = .ok (.iload_n 1, 1) := dk_27 (dk_at dksX1_mixed_2 10 rfl rfl)
theorem dX1_mixed_58 : decode cX1_mixed 58 = .ok (.sipush 255, 3) := dk_17 0 255 (dk_at dksX1_mixed_2 11 rfl rfl)
theorem dX1_mixed_61 : decode cX1_mixed 61 = .ok (.iand, 1) := dk_126 (dk_at dksX1_mixed_2 14 rfl rfl)
theorem dX1_mixed_62 : decode cX1_mixed 62 = .ok (.iadd, 1) := dk_96 (dk_at dksX1_mixed_2 15 rfl rfl)
theorem dX1_mixed_63 : decode cX1_mixed 63 = .ok (.iaload, 1) := dk_46 (dk_at dksX1_mixed_2 16 rfl rfl)
theorem dX1_mixed_64 : decode cX1_mixed 64 = .ok (.iadd, 1) := dk_96 (dk_at dksX1_mixed_2 17 rfl rfl)
theorem dX1_mixed_65 : decode cX1_mixed 65 = .ok (.ireturn, 1) := dk_172 (dk_at dksX1_mixed_2 18 rfl rfl)
abbrev cX1_word : ByteArray := prog_4_method_3_code
def yX1_word : MethodName := ⟨RX1, "word", "([BI)I"⟩
def dkwX1_word_1 : List UInt8 := [132, 3, 1, 167, 255, 233, 28, 172]
abbrev dktX1_word_1 : List UInt8 := dkwX1_word_1 ++ []
def dkwX1_word_0 : List UInt8 := [3, 61, 3, 62, 29, 7, 162, 0, 24, 28, 16, 8, 120, 42, 27, 29, 96, 51, 17, 0, 255, 126, 128, 61]
abbrev dktX1_word_0 : List UInt8 := dkwX1_word_0 ++ dktX1_word_1
theorem dksX1_word_0 : cX1_word.data.toList.drop 0 = dktX1_word_0 := by decide +kernel
theorem dksX1_word_1 : cX1_word.data.toList.drop 24 = dktX1_word_1 := dk_seg dksX1_word_0 24 rfl rfl
theorem dX1_word_0 : decode cX1_word 0 = .ok (.iconst 0, 1) := dk_3 (dk_at dksX1_word_0 0 rfl rfl)
theorem dX1_word_1 : decode cX1_word 1 = .ok (.istore_n 2, 1) := dk_61 (dk_at dksX1_word_0 1 rfl rfl)
theorem dX1_word_2 : decode cX1_word 2 = .ok (.iconst 0, 1) := dk_3 (dk_at dksX1_word_0 2 rfl rfl)
theorem dX1_word_3 : decode cX1_word 3 = .ok (.istore_n 3, 1) := dk_62 (dk_at dksX1_word_0 3 rfl rfl)
theorem dX1_word_4 : decode cX1_word 4 = .ok (.iload_n 3, 1) := dk_29 (dk_at dksX1_word_0 4 rfl rfl)
theorem dX1_word_5 : decode cX1_word 5 = .ok (.iconst 4, 1) := dk_7 (dk_at dksX1_word_0 5 rfl rfl)
theorem dX1_word_6 : decode cX1_word 6 = .ok (.if_icmp .ge 24, 3) := dk_162 0 24 (dk_at dksX1_word_0 6 rfl rfl)
theorem dX1_word_9 : decode cX1_word 9 = .ok (.iload_n 2, 1) := dk_28 (dk_at dksX1_word_0 9 rfl rfl)
theorem dX1_word_10 : decode cX1_word 10 = .ok (.bipush 8, 2) := dk_16 8 (dk_at dksX1_word_0 10 rfl rfl)
theorem dX1_word_12 : decode cX1_word 12 = .ok (.ishl, 1) := dk_120 (dk_at dksX1_word_0 12 rfl rfl)
theorem dX1_word_13 : decode cX1_word 13 = .ok (.aload_n 0, 1) := dk_42 (dk_at dksX1_word_0 13 rfl rfl)
theorem dX1_word_14 : decode cX1_word 14 = .ok (.iload_n 1, 1) := dk_27 (dk_at dksX1_word_0 14 rfl rfl)
theorem dX1_word_15 : decode cX1_word 15 = .ok (.iload_n 3, 1) := dk_29 (dk_at dksX1_word_0 15 rfl rfl)
theorem dX1_word_16 : decode cX1_word 16 = .ok (.iadd, 1) := dk_96 (dk_at dksX1_word_0 16 rfl rfl)
theorem dX1_word_17 : decode cX1_word 17 = .ok (.baload, 1) := dk_51 (dk_at dksX1_word_0 17 rfl rfl)
theorem dX1_word_18 : decode cX1_word 18 = .ok (.sipush 255, 3) := dk_17 0 255 (dk_at dksX1_word_0 18 rfl rfl)
theorem dX1_word_21 : decode cX1_word 21 = .ok (.iand, 1) := dk_126 (dk_at dksX1_word_0 21 rfl rfl)
theorem dX1_word_22 : decode cX1_word 22 = .ok (.ior, 1) := dk_128 (dk_at dksX1_word_0 22 rfl rfl)
theorem dX1_word_23 : decode cX1_word 23 = .ok (.istore_n 2, 1) := dk_61 (dk_at dksX1_word_0 23 rfl rfl)
theorem dX1_word_24 : decode cX1_word 24 = .ok (.iinc 3 1, 3) := dk_132 3 1 (dk_at dksX1_word_1 0 rfl rfl)
theorem dX1_word_27 : decode cX1_word 27 = .ok (.goto (-23), 3) := dk_167 255 233 (dk_at dksX1_word_1 3 rfl rfl)
theorem dX1_word_30 : decode cX1_word 30 = .ok (.iload_n 2, 1) := dk_28 (dk_at dksX1_word_1 6 rfl rfl)
theorem dX1_word_31 : decode cX1_word 31 = .ok (.ireturn, 1) := dk_172 (dk_at dksX1_word_1 7 rfl rfl)
abbrev cX1_open : ByteArray := prog_4_method_11_code
def yX1_open : MethodName := ⟨RX1, "open", "(I)V"⟩
def dkwX1_open_0 : List UInt8 := [42, 27, 3, 182, 0, 48, 177]
abbrev dktX1_open_0 : List UInt8 := dkwX1_open_0 ++ []
theorem dksX1_open_0 : cX1_open.data.toList.drop 0 = dktX1_open_0 := by decide +kernel
theorem dX1_open_0 : decode cX1_open 0 = .ok (.aload_n 0, 1) := dk_42 (dk_at dksX1_open_0 0 rfl rfl)
theorem dX1_open_1 : decode cX1_open 1 = .ok (.iload_n 1, 1) := dk_27 (dk_at dksX1_open_0 1 rfl rfl)
theorem dX1_open_2 : decode cX1_open 2 = .ok (.iconst 0, 1) := dk_3 (dk_at dksX1_open_0 2 rfl rfl)
theorem dX1_open_3 : decode cX1_open 3 = .ok (.invokevirtual 48, 3) := dk_182 0 48 (dk_at dksX1_open_0 3 rfl rfl)
theorem dX1_open_6 : decode cX1_open 6 = .ok (.return_, 1) := dk_177 (dk_at dksX1_open_0 6 rfl rfl)
abbrev cX1_again : ByteArray := prog_4_method_12_code
def yX1_again : MethodName := ⟨RX1, "again", "()V"⟩
def dkwX1_again_1 : List UInt8 := [167, 255, 235, 177]
abbrev dktX1_again_1 : List UInt8 := dkwX1_again_1 ++ []
def dkwX1_again_0 : List UInt8 := [3, 60, 27, 16, 8, 162, 0, 21, 42, 180, 0, 13, 27, 42, 180, 0, 16, 27, 51, 84, 132, 1, 1]
abbrev dktX1_again_0 : List UInt8 := dkwX1_again_0 ++ dktX1_again_1
theorem dksX1_again_0 : cX1_again.data.toList.drop 0 = dktX1_again_0 := by decide +kernel
theorem dksX1_again_1 : cX1_again.data.toList.drop 23 = dktX1_again_1 := dk_seg dksX1_again_0 23 rfl rfl
theorem dX1_again_0 : decode cX1_again 0 = .ok (.iconst 0, 1) := dk_3 (dk_at dksX1_again_0 0 rfl rfl)
theorem dX1_again_1 : decode cX1_again 1 = .ok (.istore_n 1, 1) := dk_60 (dk_at dksX1_again_0 1 rfl rfl)
theorem dX1_again_2 : decode cX1_again 2 = .ok (.iload_n 1, 1) := dk_27 (dk_at dksX1_again_0 2 rfl rfl)
theorem dX1_again_3 : decode cX1_again 3 = .ok (.bipush 8, 2) := dk_16 8 (dk_at dksX1_again_0 3 rfl rfl)
theorem dX1_again_5 : decode cX1_again 5 = .ok (.if_icmp .ge 21, 3) := dk_162 0 21 (dk_at dksX1_again_0 5 rfl rfl)
theorem dX1_again_8 : decode cX1_again 8 = .ok (.aload_n 0, 1) := dk_42 (dk_at dksX1_again_0 8 rfl rfl)
theorem dX1_again_9 : decode cX1_again 9 = .ok (.getfield 13, 3) := dk_180 0 13 (dk_at dksX1_again_0 9 rfl rfl)
theorem dX1_again_12 : decode cX1_again 12 = .ok (.iload_n 1, 1) := dk_27 (dk_at dksX1_again_0 12 rfl rfl)
theorem dX1_again_13 : decode cX1_again 13 = .ok (.aload_n 0, 1) := dk_42 (dk_at dksX1_again_0 13 rfl rfl)
theorem dX1_again_14 : decode cX1_again 14 = .ok (.getfield 16, 3) := dk_180 0 16 (dk_at dksX1_again_0 14 rfl rfl)
theorem dX1_again_17 : decode cX1_again 17 = .ok (.iload_n 1, 1) := dk_27 (dk_at dksX1_again_0 17 rfl rfl)
theorem dX1_again_18 : decode cX1_again 18 = .ok (.baload, 1) := dk_51 (dk_at dksX1_again_0 18 rfl rfl)
theorem dX1_again_19 : decode cX1_again 19 = .ok (.bastore, 1) := dk_84 (dk_at dksX1_again_0 19 rfl rfl)
theorem dX1_again_20 : decode cX1_again 20 = .ok (.iinc 1 1, 3) := dk_132 1 1 (dk_at dksX1_again_0 20 rfl rfl)
theorem dX1_again_23 : decode cX1_again 23 = .ok (.goto (-21), 3) := dk_167 255 235 (dk_at dksX1_again_1 0 rfl rfl)
theorem dX1_again_26 : decode cX1_again 26 = .ok (.return_, 1) := dk_177 (dk_at dksX1_again_1 3 rfl rfl)
abbrev cX1_out : ByteArray := prog_4_method_13_code
def yX1_out : MethodName := ⟨RX1, "out", "(I)I"⟩
def dkwX1_out_0 : List UInt8 := [42, 180, 0, 16, 27, 16, 7, 126, 51, 17, 0, 255, 126, 172]
abbrev dktX1_out_0 : List UInt8 := dkwX1_out_0 ++ []
theorem dksX1_out_0 : cX1_out.data.toList.drop 0 = dktX1_out_0 := by decide +kernel
theorem dX1_out_0 : decode cX1_out 0 = .ok (.aload_n 0, 1) := dk_42 (dk_at dksX1_out_0 0 rfl rfl)
theorem dX1_out_1 : decode cX1_out 1 = .ok (.getfield 16, 3) := dk_180 0 16 (dk_at dksX1_out_0 1 rfl rfl)
theorem dX1_out_4 : decode cX1_out 4 = .ok (.iload_n 1, 1) := dk_27 (dk_at dksX1_out_0 4 rfl rfl)
theorem dX1_out_5 : decode cX1_out 5 = .ok (.bipush 7, 2) := dk_16 7 (dk_at dksX1_out_0 5 rfl rfl)
theorem dX1_out_7 : decode cX1_out 7 = .ok (.iand, 1) := dk_126 (dk_at dksX1_out_0 7 rfl rfl)
theorem dX1_out_8 : decode cX1_out 8 = .ok (.baload, 1) := dk_51 (dk_at dksX1_out_0 8 rfl rfl)
theorem dX1_out_9 : decode cX1_out 9 = .ok (.sipush 255, 3) := dk_17 0 255 (dk_at dksX1_out_0 9 rfl rfl)
theorem dX1_out_12 : decode cX1_out 12 = .ok (.iand, 1) := dk_126 (dk_at dksX1_out_0 12 rfl rfl)
theorem dX1_out_13 : decode cX1_out 13 = .ok (.ireturn, 1) := dk_172 (dk_at dksX1_out_0 13 rfl rfl)
theorem q15 : (Jvm.Cond.initialized "BlowfishDeskModel") ∈ lw_all := lw_g (lw_at lw_m1 2 rfl) rfl
theorem q314 : (Jvm.Cond.instantiable "BlowfishDeskModel" (4 : Nat)) ∈ lw_all := lw_g (lw_at lw_m2 61 rfl) rfl
theorem q316 : (Jvm.Cond.instanceMethod ({ cls := "BlowfishDeskModel", name := "<init>", desc := "()V" } : Jvm.MethodName)) ∈ lw_all := lw_g (lw_at lw_m2 63 rfl) rfl
theorem q317 : (Jvm.Cond.code ({ cls := "BlowfishDeskModel", name := "<init>", desc := "()V" } : Jvm.MethodName) prog_4_method_1_code (1 : Nat) (Option.none : Option Jvm.ClassFile.FieldType)) ∈ lw_all := lw_g (lw_at lw_m2 64 rfl) rfl
theorem q318 : (Jvm.Cond.methodLink "BlowfishDeskModel" (1 : Nat) ({ cls := "java/lang/Object", name := "<init>", desc := "()V" } : Jvm.MethodName)) ∈ lw_all := lw_g (lw_at lw_m2 65 rfl) rfl
theorem q319 : (Jvm.Cond.fieldLink "BlowfishDeskModel" (7 : Nat) "BlowfishDeskModel" "key" "[B") ∈ lw_all := lw_g (lw_at lw_m2 66 rfl) rfl
theorem q320 : (Jvm.Cond.fieldLink "BlowfishDeskModel" (13 : Nat) "BlowfishDeskModel" "block" "[B") ∈ lw_all := lw_g (lw_at lw_m2 67 rfl) rfl
theorem q321 : (Jvm.Cond.fieldLink "BlowfishDeskModel" (16 : Nat) "BlowfishDeskModel" "out" "[B") ∈ lw_all := lw_g (lw_at lw_m2 68 rfl) rfl
theorem q322 : (Jvm.Cond.fieldLink "BlowfishDeskModel" (19 : Nat) "BlowfishDeskModel" "table" "[I") ∈ lw_all := lw_g (lw_at lw_m2 69 rfl) rfl
theorem q323 : (Jvm.Cond.laysFinal "BlowfishDeskModel" "BlowfishDeskModel" "key" "[B") ∈ lw_all := lw_g (lw_at lw_m2 70 rfl) rfl
theorem q324 : (Jvm.Cond.soleField "BlowfishDeskModel" "key") ∈ lw_all := lw_g (lw_at lw_m2 71 rfl) rfl
theorem q325 : (Jvm.Cond.laysFinal "BlowfishDeskModel" "BlowfishDeskModel" "block" "[B") ∈ lw_all := lw_g (lw_at lw_m2 72 rfl) rfl
theorem q326 : (Jvm.Cond.soleField "BlowfishDeskModel" "block") ∈ lw_all := lw_g (lw_at lw_m2 73 rfl) rfl
theorem q327 : (Jvm.Cond.laysFinal "BlowfishDeskModel" "BlowfishDeskModel" "out" "[B") ∈ lw_all := lw_g (lw_at lw_m2 74 rfl) rfl
theorem q328 : (Jvm.Cond.soleField "BlowfishDeskModel" "out") ∈ lw_all := lw_g (lw_at lw_m2 75 rfl) rfl
theorem q329 : (Jvm.Cond.laysFinal "BlowfishDeskModel" "BlowfishDeskModel" "table" "[I") ∈ lw_all := lw_g (lw_at lw_m2 76 rfl) rfl
theorem q330 : (Jvm.Cond.soleField "BlowfishDeskModel" "table") ∈ lw_all := lw_g (lw_at lw_m2 77 rfl) rfl
theorem q331 : (Jvm.Cond.superclass "BlowfishDeskModel" "java/lang/Object") ∈ lw_all := lw_g (lw_at lw_m2 78 rfl) rfl
theorem q333 : (Jvm.Cond.instanceMethod ({ cls := "BlowfishDeskModel", name := "key", desc := "(IIIII)V" } : Jvm.MethodName)) ∈ lw_all := lw_g (lw_at lw_m2 80 rfl) rfl
theorem q334 : (Jvm.Cond.selects "BlowfishDeskModel" ({ cls := "BlowfishDeskModel", name := "key", desc := "(IIIII)V" } : Jvm.MethodName) ({ cls := "BlowfishDeskModel", name := "key", desc := "(IIIII)V" } : Jvm.MethodName)) ∈ lw_all := lw_g (lw_at lw_m2 81 rfl) rfl
theorem q335 : (Jvm.Cond.code ({ cls := "BlowfishDeskModel", name := "key", desc := "(IIIII)V" } : Jvm.MethodName) prog_4_method_4_code (7 : Nat) (Option.none : Option Jvm.ClassFile.FieldType)) ∈ lw_all := lw_g (lw_at lw_m2 82 rfl) rfl
theorem q336 : (Jvm.Cond.methodLink "BlowfishDeskModel" (23 : Nat) ({ cls := "BlowfishDeskModel", name := "put", desc := "([BII)V" } : Jvm.MethodName)) ∈ lw_all := lw_g (lw_at lw_m2 83 rfl) rfl
theorem q337 : (Jvm.Cond.static ({ cls := "BlowfishDeskModel", name := "put", desc := "([BII)V" } : Jvm.MethodName)) ∈ lw_all := lw_g (lw_at lw_m2 84 rfl) rfl
theorem q338 : (Jvm.Cond.code ({ cls := "BlowfishDeskModel", name := "put", desc := "([BII)V" } : Jvm.MethodName) prog_4_method_2_code (4 : Nat) (Option.none : Option Jvm.ClassFile.FieldType)) ∈ lw_all := lw_g (lw_at lw_m2 85 rfl) rfl
theorem q340 : (Jvm.Cond.instanceMethod ({ cls := "BlowfishDeskModel", name := "block", desc := "(II)V" } : Jvm.MethodName)) ∈ lw_all := lw_g (lw_at lw_m2 87 rfl) rfl
theorem q341 : (Jvm.Cond.selects "BlowfishDeskModel" ({ cls := "BlowfishDeskModel", name := "block", desc := "(II)V" } : Jvm.MethodName) ({ cls := "BlowfishDeskModel", name := "block", desc := "(II)V" } : Jvm.MethodName)) ∈ lw_all := lw_g (lw_at lw_m2 88 rfl) rfl
theorem q342 : (Jvm.Cond.code ({ cls := "BlowfishDeskModel", name := "block", desc := "(II)V" } : Jvm.MethodName) prog_4_method_5_code (3 : Nat) (Option.none : Option Jvm.ClassFile.FieldType)) ∈ lw_all := lw_g (lw_at lw_m2 89 rfl) rfl
theorem q344 : (Jvm.Cond.instanceMethod ({ cls := "BlowfishDeskModel", name := "lock", desc := "(I)V" } : Jvm.MethodName)) ∈ lw_all := lw_g (lw_at lw_m2 91 rfl) rfl
theorem q345 : (Jvm.Cond.selects "BlowfishDeskModel" ({ cls := "BlowfishDeskModel", name := "lock", desc := "(I)V" } : Jvm.MethodName) ({ cls := "BlowfishDeskModel", name := "lock", desc := "(I)V" } : Jvm.MethodName)) ∈ lw_all := lw_g (lw_at lw_m2 92 rfl) rfl
theorem q346 : (Jvm.Cond.code ({ cls := "BlowfishDeskModel", name := "lock", desc := "(I)V" } : Jvm.MethodName) prog_4_method_10_code (2 : Nat) (Option.none : Option Jvm.ClassFile.FieldType)) ∈ lw_all := lw_g (lw_at lw_m2 93 rfl) rfl
theorem q347 : (Jvm.Cond.methodLink "BlowfishDeskModel" (48 : Nat) ({ cls := "BlowfishDeskModel", name := "runs", desc := "(IZ)V" } : Jvm.MethodName)) ∈ lw_all := lw_g (lw_at lw_m2 94 rfl) rfl
theorem q348 : (Jvm.Cond.privateMethod ({ cls := "BlowfishDeskModel", name := "runs", desc := "(IZ)V" } : Jvm.MethodName)) ∈ lw_tbl := lw_at lw_m2 95 rfl
theorem q349 : (Jvm.Cond.instanceMethod ({ cls := "BlowfishDeskModel", name := "runs", desc := "(IZ)V" } : Jvm.MethodName)) ∈ lw_all := lw_g (lw_at lw_m2 96 rfl) rfl
theorem q350 : (Jvm.Cond.code ({ cls := "BlowfishDeskModel", name := "runs", desc := "(IZ)V" } : Jvm.MethodName) prog_4_method_9_code (5 : Nat) (Option.none : Option Jvm.ClassFile.FieldType)) ∈ lw_all := lw_g (lw_at lw_m2 97 rfl) rfl
theorem q351 : (Jvm.Cond.methodLink "BlowfishDeskModel" (40 : Nat) ({ cls := "BlowfishDeskModel", name := "sets", desc := "(I)V" } : Jvm.MethodName)) ∈ lw_all := lw_g (lw_at lw_m2 98 rfl) rfl
theorem q352 : (Jvm.Cond.privateMethod ({ cls := "BlowfishDeskModel", name := "sets", desc := "(I)V" } : Jvm.MethodName)) ∈ lw_tbl := lw_at lw_m2 99 rfl
theorem q353 : (Jvm.Cond.instanceMethod ({ cls := "BlowfishDeskModel", name := "sets", desc := "(I)V" } : Jvm.MethodName)) ∈ lw_all := lw_g (lw_at lw_m2 100 rfl) rfl
theorem q354 : (Jvm.Cond.code ({ cls := "BlowfishDeskModel", name := "sets", desc := "(I)V" } : Jvm.MethodName) prog_4_method_8_code (7 : Nat) (Option.none : Option Jvm.ClassFile.FieldType)) ∈ lw_all := lw_g (lw_at lw_m2 101 rfl) rfl
theorem q355 : (Jvm.Cond.fieldLink "BlowfishDeskModel" (33 : Nat) "BlowfishDeskModel" "PI" "[I") ∈ lw_all := lw_g (lw_at lw_m2 102 rfl) rfl
theorem q356 : (Jvm.Cond.laysStatic "BlowfishDeskModel" "PI" "[I") ∈ lw_tbl := lw_at lw_m2 103 rfl
theorem q357 : (Jvm.Cond.methodLink "BlowfishDeskModel" (36 : Nat) ({ cls := "BlowfishDeskModel", name := "runs", desc := "(IIZ)J" } : Jvm.MethodName)) ∈ lw_all := lw_g (lw_at lw_m2 104 rfl) rfl
theorem q358 : (Jvm.Cond.privateMethod ({ cls := "BlowfishDeskModel", name := "runs", desc := "(IIZ)J" } : Jvm.MethodName)) ∈ lw_tbl := lw_at lw_m2 105 rfl
theorem q359 : (Jvm.Cond.instanceMethod ({ cls := "BlowfishDeskModel", name := "runs", desc := "(IIZ)J" } : Jvm.MethodName)) ∈ lw_all := lw_g (lw_at lw_m2 106 rfl) rfl
theorem q360 : (Jvm.Cond.code ({ cls := "BlowfishDeskModel", name := "runs", desc := "(IIZ)J" } : Jvm.MethodName) prog_4_method_7_code (8 : Nat) (Option.some Jvm.ClassFile.FieldType.long)) ∈ lw_all := lw_g (lw_at lw_m2 107 rfl) rfl
theorem q361 : (Jvm.Cond.methodLink "BlowfishDeskModel" (27 : Nat) ({ cls := "BlowfishDeskModel", name := "mixed", desc := "(I)I" } : Jvm.MethodName)) ∈ lw_all := lw_g (lw_at lw_m2 108 rfl) rfl
theorem q362 : (Jvm.Cond.privateMethod ({ cls := "BlowfishDeskModel", name := "mixed", desc := "(I)I" } : Jvm.MethodName)) ∈ lw_tbl := lw_at lw_m2 109 rfl
theorem q363 : (Jvm.Cond.instanceMethod ({ cls := "BlowfishDeskModel", name := "mixed", desc := "(I)I" } : Jvm.MethodName)) ∈ lw_all := lw_g (lw_at lw_m2 110 rfl) rfl
theorem q364 : (Jvm.Cond.code ({ cls := "BlowfishDeskModel", name := "mixed", desc := "(I)I" } : Jvm.MethodName) prog_4_method_6_code (3 : Nat) (Option.some Jvm.ClassFile.FieldType.int)) ∈ lw_all := lw_g (lw_at lw_m2 111 rfl) rfl
theorem q365 : (Jvm.Cond.constantLong "BlowfishDeskModel" (31 : Nat) (4294967295 : Int64)) ∈ lw_all := lw_g (lw_at lw_m2 112 rfl) rfl
theorem q366 : (Jvm.Cond.methodLink "BlowfishDeskModel" (44 : Nat) ({ cls := "BlowfishDeskModel", name := "word", desc := "([BI)I" } : Jvm.MethodName)) ∈ lw_all := lw_g (lw_at lw_m2 113 rfl) rfl
theorem q367 : (Jvm.Cond.static ({ cls := "BlowfishDeskModel", name := "word", desc := "([BI)I" } : Jvm.MethodName)) ∈ lw_all := lw_g (lw_at lw_m2 114 rfl) rfl
theorem q368 : (Jvm.Cond.code ({ cls := "BlowfishDeskModel", name := "word", desc := "([BI)I" } : Jvm.MethodName) prog_4_method_3_code (4 : Nat) (Option.some Jvm.ClassFile.FieldType.int)) ∈ lw_all := lw_g (lw_at lw_m2 115 rfl) rfl
theorem q370 : (Jvm.Cond.instanceMethod ({ cls := "BlowfishDeskModel", name := "open", desc := "(I)V" } : Jvm.MethodName)) ∈ lw_all := lw_g (lw_at lw_m2 117 rfl) rfl
theorem q371 : (Jvm.Cond.selects "BlowfishDeskModel" ({ cls := "BlowfishDeskModel", name := "open", desc := "(I)V" } : Jvm.MethodName) ({ cls := "BlowfishDeskModel", name := "open", desc := "(I)V" } : Jvm.MethodName)) ∈ lw_all := lw_g (lw_at lw_m2 118 rfl) rfl
theorem q372 : (Jvm.Cond.code ({ cls := "BlowfishDeskModel", name := "open", desc := "(I)V" } : Jvm.MethodName) prog_4_method_11_code (2 : Nat) (Option.none : Option Jvm.ClassFile.FieldType)) ∈ lw_all := lw_g (lw_at lw_m2 119 rfl) rfl
theorem q374 : (Jvm.Cond.instanceMethod ({ cls := "BlowfishDeskModel", name := "again", desc := "()V" } : Jvm.MethodName)) ∈ lw_all := lw_g (lw_at lw_m2 121 rfl) rfl
theorem q375 : (Jvm.Cond.selects "BlowfishDeskModel" ({ cls := "BlowfishDeskModel", name := "again", desc := "()V" } : Jvm.MethodName) ({ cls := "BlowfishDeskModel", name := "again", desc := "()V" } : Jvm.MethodName)) ∈ lw_all := lw_g (lw_at lw_m2 122 rfl) rfl
theorem q376 : (Jvm.Cond.code ({ cls := "BlowfishDeskModel", name := "again", desc := "()V" } : Jvm.MethodName) prog_4_method_12_code (2 : Nat) (Option.none : Option Jvm.ClassFile.FieldType)) ∈ lw_all := lw_g (lw_at lw_m2 123 rfl) rfl
theorem q378 : (Jvm.Cond.instanceMethod ({ cls := "BlowfishDeskModel", name := "out", desc := "(I)I" } : Jvm.MethodName)) ∈ lw_all := lw_g (lw_at lw_m2 125 rfl) rfl
theorem q379 : (Jvm.Cond.selects "BlowfishDeskModel" ({ cls := "BlowfishDeskModel", name := "out", desc := "(I)I" } : Jvm.MethodName) ({ cls := "BlowfishDeskModel", name := "out", desc := "(I)I" } : Jvm.MethodName)) ∈ lw_all := lw_g (lw_at lw_m2 126 rfl) rfl
theorem q380 : (Jvm.Cond.code ({ cls := "BlowfishDeskModel", name := "out", desc := "(I)I" } : Jvm.MethodName) prog_4_method_13_code (2 : Nat) (Option.some Jvm.ClassFile.FieldType.int)) ∈ lw_all := lw_g (lw_at lw_m2 127 rfl) rfl
theorem in_X1 : ∀ w ∈ wsX10, w ∈ lw_all := lw_in wsX10 [323, 325, 327, 329] (by decide +kernel) (by decide +kernel)

theorem q13 : (Jvm.Cond.initialized "BlowfishDeskLaw") ∈ lw_all := lw_g (lw_at lw_m1 0 rfl) rfl
set_option maxRecDepth 100000
theorem q27 : (Jvm.Cond.classLink "BlowfishDeskLaw" (7 : Nat) "BlowfishDesk") ∈ lw_all := lw_g (lw_at lw_m1 14 rfl) rfl
theorem q29 : (Jvm.Cond.methodLink "BlowfishDeskLaw" (9 : Nat) ({ cls := "BlowfishDesk", name := "<init>", desc := "()V" } : Jvm.MethodName)) ∈ lw_all := lw_g (lw_at lw_m1 16 rfl) rfl
theorem q46 : (Jvm.Cond.methodLink "BlowfishDeskLaw" (13 : Nat) ({ cls := "BlowfishDesk", name := "key", desc := "(IIIII)V" } : Jvm.MethodName)) ∈ lw_all := lw_g (lw_at lw_m1 33 rfl) rfl
theorem q53 : (Jvm.Cond.methodLink "BlowfishDeskLaw" (18 : Nat) ({ cls := "BlowfishDesk", name := "block", desc := "(II)V" } : Jvm.MethodName)) ∈ lw_all := lw_g (lw_at lw_m1 40 rfl) rfl
theorem q57 : (Jvm.Cond.methodLink "BlowfishDeskLaw" (23 : Nat) ({ cls := "BlowfishDesk", name := "lock", desc := "(I)V" } : Jvm.MethodName)) ∈ lw_all := lw_g (lw_at lw_m1 44 rfl) rfl
theorem q301 : (Jvm.Cond.methodLink "BlowfishDeskLaw" (28 : Nat) ({ cls := "BlowfishDesk", name := "open", desc := "(I)V" } : Jvm.MethodName)) ∈ lw_all := lw_g (lw_at lw_m2 48 rfl) rfl
theorem q305 : (Jvm.Cond.methodLink "BlowfishDeskLaw" (32 : Nat) ({ cls := "BlowfishDesk", name := "again", desc := "()V" } : Jvm.MethodName)) ∈ lw_all := lw_g (lw_at lw_m2 52 rfl) rfl
theorem q309 : (Jvm.Cond.methodLink "BlowfishDeskLaw" (36 : Nat) ({ cls := "BlowfishDesk", name := "out", desc := "(I)I" } : Jvm.MethodName)) ∈ lw_all := lw_g (lw_at lw_m2 56 rfl) rfl
theorem q313 : (Jvm.Cond.classLink "BlowfishDeskLaw" (10 : Nat) "BlowfishDeskModel") ∈ lw_all := lw_g (lw_at lw_m2 60 rfl) rfl
theorem q315 : (Jvm.Cond.methodLink "BlowfishDeskLaw" (12 : Nat) ({ cls := "BlowfishDeskModel", name := "<init>", desc := "()V" } : Jvm.MethodName)) ∈ lw_all := lw_g (lw_at lw_m2 62 rfl) rfl
theorem q332 : (Jvm.Cond.methodLink "BlowfishDeskLaw" (17 : Nat) ({ cls := "BlowfishDeskModel", name := "key", desc := "(IIIII)V" } : Jvm.MethodName)) ∈ lw_all := lw_g (lw_at lw_m2 79 rfl) rfl
theorem q339 : (Jvm.Cond.methodLink "BlowfishDeskLaw" (22 : Nat) ({ cls := "BlowfishDeskModel", name := "block", desc := "(II)V" } : Jvm.MethodName)) ∈ lw_all := lw_g (lw_at lw_m2 86 rfl) rfl
theorem q343 : (Jvm.Cond.methodLink "BlowfishDeskLaw" (27 : Nat) ({ cls := "BlowfishDeskModel", name := "lock", desc := "(I)V" } : Jvm.MethodName)) ∈ lw_all := lw_g (lw_at lw_m2 90 rfl) rfl
theorem q369 : (Jvm.Cond.methodLink "BlowfishDeskLaw" (31 : Nat) ({ cls := "BlowfishDeskModel", name := "open", desc := "(I)V" } : Jvm.MethodName)) ∈ lw_all := lw_g (lw_at lw_m2 116 rfl) rfl
theorem q373 : (Jvm.Cond.methodLink "BlowfishDeskLaw" (35 : Nat) ({ cls := "BlowfishDeskModel", name := "again", desc := "()V" } : Jvm.MethodName)) ∈ lw_all := lw_g (lw_at lw_m2 120 rfl) rfl
theorem q377 : (Jvm.Cond.methodLink "BlowfishDeskLaw" (40 : Nat) ({ cls := "BlowfishDeskModel", name := "out", desc := "(I)I" } : Jvm.MethodName)) ∈ lw_all := lw_g (lw_at lw_m2 124 rfl) rfl

/-! the law's own entry -/
set_option maxRecDepth 100000
abbrev cL_law : ByteArray := code
def dkwL_law_10 : List UInt8 := [3, 172, 132, 3, 6, 167, 255, 31, 4, 172]
abbrev dktL_law_10 : List UInt8 := dkwL_law_10 ++ []
def dkwL_law_9 : List UInt8 := [167, 0, 26, 43, 42, 29, 4, 96, 46, 182, 0, 36, 44, 42, 29, 4, 96, 46, 182, 0, 40, 159, 0, 5]
abbrev dktL_law_9 : List UInt8 := dkwL_law_9 ++ dktL_law_10
def dkwL_law_8 : List UInt8 := [182, 0, 28, 44, 42, 29, 4, 96, 46, 182, 0, 31, 167, 0, 37, 43, 182, 0, 32, 44, 182, 0, 35]
abbrev dktL_law_8 : List UInt8 := dkwL_law_8 ++ dktL_law_9
def dkwL_law_7 : List UInt8 := [96, 46, 182, 0, 23, 44, 42, 29, 4, 96, 46, 182, 0, 27, 167, 0, 58, 43, 42, 29, 4, 96, 46]
abbrev dktL_law_7 : List UInt8 := dkwL_law_7 ++ dktL_law_8
def dkwL_law_6 : List UInt8 := [182, 0, 18, 44, 42, 29, 4, 96, 46, 42, 29, 5, 96, 46, 182, 0, 22, 167, 0, 79, 43, 42, 29, 4]
abbrev dktL_law_6 : List UInt8 := dkwL_law_6 ++ dktL_law_7
def dkwL_law_5 : List UInt8 := [96, 46, 42, 29, 8, 96, 46, 182, 0, 17, 167, 0, 110, 43, 42, 29, 4, 96, 46, 42, 29, 5, 96, 46]
abbrev dktL_law_5 : List UInt8 := dkwL_law_5 ++ dktL_law_6
def dkwL_law_4 : List UInt8 := [96, 46, 182, 0, 13, 44, 42, 29, 4, 96, 46, 42, 29, 5, 96, 46, 42, 29, 6, 96, 46, 42, 29, 7]
abbrev dktL_law_4 : List UInt8 := dkwL_law_4 ++ dktL_law_5
def dkwL_law_3 : List UInt8 := [43, 42, 29, 4, 96, 46, 42, 29, 5, 96, 46, 42, 29, 6, 96, 46, 42, 29, 7, 96, 46, 42, 29, 8]
abbrev dktL_law_3 : List UInt8 := dkwL_law_3 ++ dktL_law_4
def dkwL_law_2 : List UInt8 := [170, 0, 0, 0, 0, 0, 207, 0, 0, 0, 0, 0, 0, 0, 5, 0, 0, 0, 39, 0, 0, 0, 100, 0, 0, 0, 131, 0, 0, 0, 152, 0, 0, 0, 173, 0, 0, 0, 184]
abbrev dktL_law_2 : List UInt8 := dkwL_law_2 ++ dktL_law_3
def dkwL_law_1 : List UInt8 := [163, 0, 222, 42, 29, 46, 16, 7, 126]
abbrev dktL_law_1 : List UInt8 := dkwL_law_1 ++ dktL_law_2
def dkwL_law_0 : List UInt8 := [187, 0, 7, 89, 183, 0, 9, 76, 187, 0, 10, 89, 183, 0, 12, 77, 3, 62, 29, 42, 190, 16, 6, 100]
abbrev dktL_law_0 : List UInt8 := dkwL_law_0 ++ dktL_law_1
theorem dksL_law_0 : cL_law.data.toList.drop 0 = dktL_law_0 := by decide +kernel
theorem dksL_law_1 : cL_law.data.toList.drop 24 = dktL_law_1 := dk_seg dksL_law_0 24 rfl rfl
theorem dksL_law_2 : cL_law.data.toList.drop 33 = dktL_law_2 := dk_seg dksL_law_1 9 rfl rfl
theorem dksL_law_3 : cL_law.data.toList.drop 72 = dktL_law_3 := dk_seg dksL_law_2 39 rfl rfl
theorem dksL_law_4 : cL_law.data.toList.drop 96 = dktL_law_4 := dk_seg dksL_law_3 24 rfl rfl
theorem dksL_law_5 : cL_law.data.toList.drop 120 = dktL_law_5 := dk_seg dksL_law_4 24 rfl rfl
theorem dksL_law_6 : cL_law.data.toList.drop 144 = dktL_law_6 := dk_seg dksL_law_5 24 rfl rfl
theorem dksL_law_7 : cL_law.data.toList.drop 168 = dktL_law_7 := dk_seg dksL_law_6 24 rfl rfl
theorem dksL_law_8 : cL_law.data.toList.drop 191 = dktL_law_8 := dk_seg dksL_law_7 23 rfl rfl
theorem dksL_law_9 : cL_law.data.toList.drop 214 = dktL_law_9 := dk_seg dksL_law_8 23 rfl rfl
theorem dksL_law_10 : cL_law.data.toList.drop 238 = dktL_law_10 := dk_seg dksL_law_9 24 rfl rfl
theorem dL_law_0 : decode cL_law 0 = .ok (.new 7, 3) := dk_187 0 7 (dk_at dksL_law_0 0 rfl rfl)
theorem dL_law_3 : decode cL_law 3 = .ok (.dup, 1) := dk_89 (dk_at dksL_law_0 3 rfl rfl)
theorem dL_law_4 : decode cL_law 4 = .ok (.invokespecial 9, 3) := dk_183 0 9 (dk_at dksL_law_0 4 rfl rfl)
theorem dL_law_7 : decode cL_law 7 = .ok (.astore_n 1, 1) := dk_76 (dk_at dksL_law_0 7 rfl rfl)
theorem dL_law_8 : decode cL_law 8 = .ok (.new 10, 3) := dk_187 0 10 (dk_at dksL_law_0 8 rfl rfl)
theorem dL_law_11 : decode cL_law 11 = .ok (.dup, 1) := dk_89 (dk_at dksL_law_0 11 rfl rfl)
theorem dL_law_12 : decode cL_law 12 = .ok (.invokespecial 12, 3) := dk_183 0 12 (dk_at dksL_law_0 12 rfl rfl)
theorem dL_law_15 : decode cL_law 15 = .ok (.astore_n 2, 1) := dk_77 (dk_at dksL_law_0 15 rfl rfl)
theorem dL_law_16 : decode cL_law 16 = .ok (.iconst 0, 1) := dk_3 (dk_at dksL_law_0 16 rfl rfl)
theorem dL_law_17 : decode cL_law 17 = .ok (.istore_n 3, 1) := dk_62 (dk_at dksL_law_0 17 rfl rfl)
theorem dL_law_18 : decode cL_law 18 = .ok (.iload_n 3, 1) := dk_29 (dk_at dksL_law_0 18 rfl rfl)
theorem dL_law_19 : decode cL_law 19 = .ok (.aload_n 0, 1) := dk_42 (dk_at dksL_law_0 19 rfl rfl)
theorem dL_law_20 : decode cL_law 20 = .ok (.arraylength, 1) := dk_190 (dk_at dksL_law_0 20 rfl rfl)
theorem dL_law_21 : decode cL_law 21 = .ok (.bipush 6, 2) := dk_16 6 (dk_at dksL_law_0 21 rfl rfl)
theorem dL_law_23 : decode cL_law 23 = .ok (.isub, 1) := dk_100 (dk_at dksL_law_0 23 rfl rfl)
theorem dL_law_24 : decode cL_law 24 = .ok (.if_icmp .gt 222, 3) := dk_163 0 222 (dk_at dksL_law_1 0 rfl rfl)
theorem dL_law_27 : decode cL_law 27 = .ok (.aload_n 0, 1) := dk_42 (dk_at dksL_law_1 3 rfl rfl)
theorem dL_law_28 : decode cL_law 28 = .ok (.iload_n 3, 1) := dk_29 (dk_at dksL_law_1 4 rfl rfl)
theorem dL_law_29 : decode cL_law 29 = .ok (.iaload, 1) := dk_46 (dk_at dksL_law_1 5 rfl rfl)
theorem dL_law_30 : decode cL_law 30 = .ok (.bipush 7, 2) := dk_16 7 (dk_at dksL_law_1 6 rfl rfl)
theorem dL_law_32 : decode cL_law 32 = .ok (.iand, 1) := dk_126 (dk_at dksL_law_1 8 rfl rfl)
theorem dL_law_33 : decode cL_law 33 = .ok (.tableswitch 207 0 5 #[39, 100, 131, 152, 173, 184], 39) := by decide +kernel
theorem dL_law_72 : decode cL_law 72 = .ok (.aload_n 1, 1) := dk_43 (dk_at dksL_law_3 0 rfl rfl)
theorem dL_law_73 : decode cL_law 73 = .ok (.aload_n 0, 1) := dk_42 (dk_at dksL_law_3 1 rfl rfl)
theorem dL_law_74 : decode cL_law 74 = .ok (.iload_n 3, 1) := dk_29 (dk_at dksL_law_3 2 rfl rfl)
theorem dL_law_75 : decode cL_law 75 = .ok (.iconst 1, 1) := dk_4 (dk_at dksL_law_3 3 rfl rfl)
theorem dL_law_76 : decode cL_law 76 = .ok (.iadd, 1) := dk_96 (dk_at dksL_law_3 4 rfl rfl)
theorem dL_law_77 : decode cL_law 77 = .ok (.iaload, 1) := dk_46 (dk_at dksL_law_3 5 rfl rfl)
theorem dL_law_78 : decode cL_law 78 = .ok (.aload_n 0, 1) := dk_42 (dk_at dksL_law_3 6 rfl rfl)
theorem dL_law_79 : decode cL_law 79 = .ok (.iload_n 3, 1) := dk_29 (dk_at dksL_law_3 7 rfl rfl)
theorem dL_law_80 : decode cL_law 80 = .ok (.iconst 2, 1) := dk_5 (dk_at dksL_law_3 8 rfl rfl)
theorem dL_law_81 : decode cL_law 81 = .ok (.iadd, 1) := dk_96 (dk_at dksL_law_3 9 rfl rfl)
theorem dL_law_82 : decode cL_law 82 = .ok (.iaload, 1) := dk_46 (dk_at dksL_law_3 10 rfl rfl)
theorem dL_law_83 : decode cL_law 83 = .ok (.aload_n 0, 1) := dk_42 (dk_at dksL_law_3 11 rfl rfl)
theorem dL_law_84 : decode cL_law 84 = .ok (.iload_n 3, 1) := dk_29 (dk_at dksL_law_3 12 rfl rfl)
theorem dL_law_85 : decode cL_law 85 = .ok (.iconst 3, 1) := dk_6 (dk_at dksL_law_3 13 rfl rfl)
theorem dL_law_86 : decode cL_law 86 = .ok (.iadd, 1) := dk_96 (dk_at dksL_law_3 14 rfl rfl)
theorem dL_law_87 : decode cL_law 87 = .ok (.iaload, 1) := dk_46 (dk_at dksL_law_3 15 rfl rfl)
theorem dL_law_88 : decode cL_law 88 = .ok (.aload_n 0, 1) := dk_42 (dk_at dksL_law_3 16 rfl rfl)
theorem dL_law_89 : decode cL_law 89 = .ok (.iload_n 3, 1) := dk_29 (dk_at dksL_law_3 17 rfl rfl)
theorem dL_law_90 : decode cL_law 90 = .ok (.iconst 4, 1) := dk_7 (dk_at dksL_law_3 18 rfl rfl)
theorem dL_law_91 : decode cL_law 91 = .ok (.iadd, 1) := dk_96 (dk_at dksL_law_3 19 rfl rfl)
theorem dL_law_92 : decode cL_law 92 = .ok (.iaload, 1) := dk_46 (dk_at dksL_law_3 20 rfl rfl)
theorem dL_law_93 : decode cL_law 93 = .ok (.aload_n 0, 1) := dk_42 (dk_at dksL_law_3 21 rfl rfl)
theorem dL_law_94 : decode cL_law 94 = .ok (.iload_n 3, 1) := dk_29 (dk_at dksL_law_3 22 rfl rfl)
theorem dL_law_95 : decode cL_law 95 = .ok (.iconst 5, 1) := dk_8 (dk_at dksL_law_3 23 rfl rfl)
theorem dL_law_96 : decode cL_law 96 = .ok (.iadd, 1) := dk_96 (dk_at dksL_law_4 0 rfl rfl)
theorem dL_law_97 : decode cL_law 97 = .ok (.iaload, 1) := dk_46 (dk_at dksL_law_4 1 rfl rfl)
theorem dL_law_98 : decode cL_law 98 = .ok (.invokevirtual 13, 3) := dk_182 0 13 (dk_at dksL_law_4 2 rfl rfl)
theorem dL_law_101 : decode cL_law 101 = .ok (.aload_n 2, 1) := dk_44 (dk_at dksL_law_4 5 rfl rfl)
theorem dL_law_102 : decode cL_law 102 = .ok (.aload_n 0, 1) := dk_42 (dk_at dksL_law_4 6 rfl rfl)
theorem dL_law_103 : decode cL_law 103 = .ok (.iload_n 3, 1) := dk_29 (dk_at dksL_law_4 7 rfl rfl)
theorem dL_law_104 : decode cL_law 104 = .ok (.iconst 1, 1) := dk_4 (dk_at dksL_law_4 8 rfl rfl)
theorem dL_law_105 : decode cL_law 105 = .ok (.iadd, 1) := dk_96 (dk_at dksL_law_4 9 rfl rfl)
theorem dL_law_106 : decode cL_law 106 = .ok (.iaload, 1) := dk_46 (dk_at dksL_law_4 10 rfl rfl)
theorem dL_law_107 : decode cL_law 107 = .ok (.aload_n 0, 1) := dk_42 (dk_at dksL_law_4 11 rfl rfl)
theorem dL_law_108 : decode cL_law 108 = .ok (.iload_n 3, 1) := dk_29 (dk_at dksL_law_4 12 rfl rfl)
theorem dL_law_109 : decode cL_law 109 = .ok (.iconst 2, 1) := dk_5 (dk_at dksL_law_4 13 rfl rfl)
theorem dL_law_110 : decode cL_law 110 = .ok (.iadd, 1) := dk_96 (dk_at dksL_law_4 14 rfl rfl)
theorem dL_law_111 : decode cL_law 111 = .ok (.iaload, 1) := dk_46 (dk_at dksL_law_4 15 rfl rfl)
theorem dL_law_112 : decode cL_law 112 = .ok (.aload_n 0, 1) := dk_42 (dk_at dksL_law_4 16 rfl rfl)
theorem dL_law_113 : decode cL_law 113 = .ok (.iload_n 3, 1) := dk_29 (dk_at dksL_law_4 17 rfl rfl)
theorem dL_law_114 : decode cL_law 114 = .ok (.iconst 3, 1) := dk_6 (dk_at dksL_law_4 18 rfl rfl)
theorem dL_law_115 : decode cL_law 115 = .ok (.iadd, 1) := dk_96 (dk_at dksL_law_4 19 rfl rfl)
theorem dL_law_116 : decode cL_law 116 = .ok (.iaload, 1) := dk_46 (dk_at dksL_law_4 20 rfl rfl)
theorem dL_law_117 : decode cL_law 117 = .ok (.aload_n 0, 1) := dk_42 (dk_at dksL_law_4 21 rfl rfl)
theorem dL_law_118 : decode cL_law 118 = .ok (.iload_n 3, 1) := dk_29 (dk_at dksL_law_4 22 rfl rfl)
theorem dL_law_119 : decode cL_law 119 = .ok (.iconst 4, 1) := dk_7 (dk_at dksL_law_4 23 rfl rfl)
theorem dL_law_120 : decode cL_law 120 = .ok (.iadd, 1) := dk_96 (dk_at dksL_law_5 0 rfl rfl)
theorem dL_law_121 : decode cL_law 121 = .ok (.iaload, 1) := dk_46 (dk_at dksL_law_5 1 rfl rfl)
theorem dL_law_122 : decode cL_law 122 = .ok (.aload_n 0, 1) := dk_42 (dk_at dksL_law_5 2 rfl rfl)
theorem dL_law_123 : decode cL_law 123 = .ok (.iload_n 3, 1) := dk_29 (dk_at dksL_law_5 3 rfl rfl)
theorem dL_law_124 : decode cL_law 124 = .ok (.iconst 5, 1) := dk_8 (dk_at dksL_law_5 4 rfl rfl)
theorem dL_law_125 : decode cL_law 125 = .ok (.iadd, 1) := dk_96 (dk_at dksL_law_5 5 rfl rfl)
theorem dL_law_126 : decode cL_law 126 = .ok (.iaload, 1) := dk_46 (dk_at dksL_law_5 6 rfl rfl)
theorem dL_law_127 : decode cL_law 127 = .ok (.invokevirtual 17, 3) := dk_182 0 17 (dk_at dksL_law_5 7 rfl rfl)
theorem dL_law_130 : decode cL_law 130 = .ok (.goto 110, 3) := dk_167 0 110 (dk_at dksL_law_5 10 rfl rfl)
theorem dL_law_133 : decode cL_law 133 = .ok (.aload_n 1, 1) := dk_43 (dk_at dksL_law_5 13 rfl rfl)
theorem dL_law_134 : decode cL_law 134 = .ok (.aload_n 0, 1) := dk_42 (dk_at dksL_law_5 14 rfl rfl)
theorem dL_law_135 : decode cL_law 135 = .ok (.iload_n 3, 1) := dk_29 (dk_at dksL_law_5 15 rfl rfl)
theorem dL_law_136 : decode cL_law 136 = .ok (.iconst 1, 1) := dk_4 (dk_at dksL_law_5 16 rfl rfl)
theorem dL_law_137 : decode cL_law 137 = .ok (.iadd, 1) := dk_96 (dk_at dksL_law_5 17 rfl rfl)
theorem dL_law_138 : decode cL_law 138 = .ok (.iaload, 1) := dk_46 (dk_at dksL_law_5 18 rfl rfl)
theorem dL_law_139 : decode cL_law 139 = .ok (.aload_n 0, 1) := dk_42 (dk_at dksL_law_5 19 rfl rfl)
theorem dL_law_140 : decode cL_law 140 = .ok (.iload_n 3, 1) := dk_29 (dk_at dksL_law_5 20 rfl rfl)
theorem dL_law_141 : decode cL_law 141 = .ok (.iconst 2, 1) := dk_5 (dk_at dksL_law_5 21 rfl rfl)
theorem dL_law_142 : decode cL_law 142 = .ok (.iadd, 1) := dk_96 (dk_at dksL_law_5 22 rfl rfl)
theorem dL_law_143 : decode cL_law 143 = .ok (.iaload, 1) := dk_46 (dk_at dksL_law_5 23 rfl rfl)
theorem dL_law_144 : decode cL_law 144 = .ok (.invokevirtual 18, 3) := dk_182 0 18 (dk_at dksL_law_6 0 rfl rfl)
theorem dL_law_147 : decode cL_law 147 = .ok (.aload_n 2, 1) := dk_44 (dk_at dksL_law_6 3 rfl rfl)
theorem dL_law_148 : decode cL_law 148 = .ok (.aload_n 0, 1) := dk_42 (dk_at dksL_law_6 4 rfl rfl)
theorem dL_law_149 : decode cL_law 149 = .ok (.iload_n 3, 1) := dk_29 (dk_at dksL_law_6 5 rfl rfl)
theorem dL_law_150 : decode cL_law 150 = .ok (.iconst 1, 1) := dk_4 (dk_at dksL_law_6 6 rfl rfl)
theorem dL_law_151 : decode cL_law 151 = .ok (.iadd, 1) := dk_96 (dk_at dksL_law_6 7 rfl rfl)
theorem dL_law_152 : decode cL_law 152 = .ok (.iaload, 1) := dk_46 (dk_at dksL_law_6 8 rfl rfl)
theorem dL_law_153 : decode cL_law 153 = .ok (.aload_n 0, 1) := dk_42 (dk_at dksL_law_6 9 rfl rfl)
theorem dL_law_154 : decode cL_law 154 = .ok (.iload_n 3, 1) := dk_29 (dk_at dksL_law_6 10 rfl rfl)
theorem dL_law_155 : decode cL_law 155 = .ok (.iconst 2, 1) := dk_5 (dk_at dksL_law_6 11 rfl rfl)
theorem dL_law_156 : decode cL_law 156 = .ok (.iadd, 1) := dk_96 (dk_at dksL_law_6 12 rfl rfl)
theorem dL_law_157 : decode cL_law 157 = .ok (.iaload, 1) := dk_46 (dk_at dksL_law_6 13 rfl rfl)
theorem dL_law_158 : decode cL_law 158 = .ok (.invokevirtual 22, 3) := dk_182 0 22 (dk_at dksL_law_6 14 rfl rfl)
theorem dL_law_161 : decode cL_law 161 = .ok (.goto 79, 3) := dk_167 0 79 (dk_at dksL_law_6 17 rfl rfl)
theorem dL_law_164 : decode cL_law 164 = .ok (.aload_n 1, 1) := dk_43 (dk_at dksL_law_6 20 rfl rfl)
theorem dL_law_165 : decode cL_law 165 = .ok (.aload_n 0, 1) := dk_42 (dk_at dksL_law_6 21 rfl rfl)
theorem dL_law_166 : decode cL_law 166 = .ok (.iload_n 3, 1) := dk_29 (dk_at dksL_law_6 22 rfl rfl)
theorem dL_law_167 : decode cL_law 167 = .ok (.iconst 1, 1) := dk_4 (dk_at dksL_law_6 23 rfl rfl)
theorem dL_law_168 : decode cL_law 168 = .ok (.iadd, 1) := dk_96 (dk_at dksL_law_7 0 rfl rfl)
theorem dL_law_169 : decode cL_law 169 = .ok (.iaload, 1) := dk_46 (dk_at dksL_law_7 1 rfl rfl)
theorem dL_law_170 : decode cL_law 170 = .ok (.invokevirtual 23, 3) := dk_182 0 23 (dk_at dksL_law_7 2 rfl rfl)
theorem dL_law_173 : decode cL_law 173 = .ok (.aload_n 2, 1) := dk_44 (dk_at dksL_law_7 5 rfl rfl)
theorem dL_law_174 : decode cL_law 174 = .ok (.aload_n 0, 1) := dk_42 (dk_at dksL_law_7 6 rfl rfl)
theorem dL_law_175 : decode cL_law 175 = .ok (.iload_n 3, 1) := dk_29 (dk_at dksL_law_7 7 rfl rfl)
theorem dL_law_176 : decode cL_law 176 = .ok (.iconst 1, 1) := dk_4 (dk_at dksL_law_7 8 rfl rfl)
theorem dL_law_177 : decode cL_law 177 = .ok (.iadd, 1) := dk_96 (dk_at dksL_law_7 9 rfl rfl)
theorem dL_law_178 : decode cL_law 178 = .ok (.iaload, 1) := dk_46 (dk_at dksL_law_7 10 rfl rfl)
theorem dL_law_179 : decode cL_law 179 = .ok (.invokevirtual 27, 3) := dk_182 0 27 (dk_at dksL_law_7 11 rfl rfl)
theorem dL_law_182 : decode cL_law 182 = .ok (.goto 58, 3) := dk_167 0 58 (dk_at dksL_law_7 14 rfl rfl)
theorem dL_law_185 : decode cL_law 185 = .ok (.aload_n 1, 1) := dk_43 (dk_at dksL_law_7 17 rfl rfl)
theorem dL_law_186 : decode cL_law 186 = .ok (.aload_n 0, 1) := dk_42 (dk_at dksL_law_7 18 rfl rfl)
theorem dL_law_187 : decode cL_law 187 = .ok (.iload_n 3, 1) := dk_29 (dk_at dksL_law_7 19 rfl rfl)
theorem dL_law_188 : decode cL_law 188 = .ok (.iconst 1, 1) := dk_4 (dk_at dksL_law_7 20 rfl rfl)
theorem dL_law_189 : decode cL_law 189 = .ok (.iadd, 1) := dk_96 (dk_at dksL_law_7 21 rfl rfl)
theorem dL_law_190 : decode cL_law 190 = .ok (.iaload, 1) := dk_46 (dk_at dksL_law_7 22 rfl rfl)
theorem dL_law_191 : decode cL_law 191 = .ok (.invokevirtual 28, 3) := dk_182 0 28 (dk_at dksL_law_8 0 rfl rfl)
theorem dL_law_194 : decode cL_law 194 = .ok (.aload_n 2, 1) := dk_44 (dk_at dksL_law_8 3 rfl rfl)
theorem dL_law_195 : decode cL_law 195 = .ok (.aload_n 0, 1) := dk_42 (dk_at dksL_law_8 4 rfl rfl)
theorem dL_law_196 : decode cL_law 196 = .ok (.iload_n 3, 1) := dk_29 (dk_at dksL_law_8 5 rfl rfl)
theorem dL_law_197 : decode cL_law 197 = .ok (.iconst 1, 1) := dk_4 (dk_at dksL_law_8 6 rfl rfl)
theorem dL_law_198 : decode cL_law 198 = .ok (.iadd, 1) := dk_96 (dk_at dksL_law_8 7 rfl rfl)
theorem dL_law_199 : decode cL_law 199 = .ok (.iaload, 1) := dk_46 (dk_at dksL_law_8 8 rfl rfl)
theorem dL_law_200 : decode cL_law 200 = .ok (.invokevirtual 31, 3) := dk_182 0 31 (dk_at dksL_law_8 9 rfl rfl)
theorem dL_law_203 : decode cL_law 203 = .ok (.goto 37, 3) := dk_167 0 37 (dk_at dksL_law_8 12 rfl rfl)
theorem dL_law_206 : decode cL_law 206 = .ok (.aload_n 1, 1) := dk_43 (dk_at dksL_law_8 15 rfl rfl)
theorem dL_law_207 : decode cL_law 207 = .ok (.invokevirtual 32, 3) := dk_182 0 32 (dk_at dksL_law_8 16 rfl rfl)
theorem dL_law_210 : decode cL_law 210 = .ok (.aload_n 2, 1) := dk_44 (dk_at dksL_law_8 19 rfl rfl)
theorem dL_law_211 : decode cL_law 211 = .ok (.invokevirtual 35, 3) := dk_182 0 35 (dk_at dksL_law_8 20 rfl rfl)
theorem dL_law_214 : decode cL_law 214 = .ok (.goto 26, 3) := dk_167 0 26 (dk_at dksL_law_9 0 rfl rfl)
theorem dL_law_217 : decode cL_law 217 = .ok (.aload_n 1, 1) := dk_43 (dk_at dksL_law_9 3 rfl rfl)
theorem dL_law_218 : decode cL_law 218 = .ok (.aload_n 0, 1) := dk_42 (dk_at dksL_law_9 4 rfl rfl)
theorem dL_law_219 : decode cL_law 219 = .ok (.iload_n 3, 1) := dk_29 (dk_at dksL_law_9 5 rfl rfl)
theorem dL_law_220 : decode cL_law 220 = .ok (.iconst 1, 1) := dk_4 (dk_at dksL_law_9 6 rfl rfl)
theorem dL_law_221 : decode cL_law 221 = .ok (.iadd, 1) := dk_96 (dk_at dksL_law_9 7 rfl rfl)
theorem dL_law_222 : decode cL_law 222 = .ok (.iaload, 1) := dk_46 (dk_at dksL_law_9 8 rfl rfl)
theorem dL_law_223 : decode cL_law 223 = .ok (.invokevirtual 36, 3) := dk_182 0 36 (dk_at dksL_law_9 9 rfl rfl)
theorem dL_law_226 : decode cL_law 226 = .ok (.aload_n 2, 1) := dk_44 (dk_at dksL_law_9 12 rfl rfl)
theorem dL_law_227 : decode cL_law 227 = .ok (.aload_n 0, 1) := dk_42 (dk_at dksL_law_9 13 rfl rfl)
theorem dL_law_228 : decode cL_law 228 = .ok (.iload_n 3, 1) := dk_29 (dk_at dksL_law_9 14 rfl rfl)
theorem dL_law_229 : decode cL_law 229 = .ok (.iconst 1, 1) := dk_4 (dk_at dksL_law_9 15 rfl rfl)
theorem dL_law_230 : decode cL_law 230 = .ok (.iadd, 1) := dk_96 (dk_at dksL_law_9 16 rfl rfl)
theorem dL_law_231 : decode cL_law 231 = .ok (.iaload, 1) := dk_46 (dk_at dksL_law_9 17 rfl rfl)
theorem dL_law_232 : decode cL_law 232 = .ok (.invokevirtual 40, 3) := dk_182 0 40 (dk_at dksL_law_9 18 rfl rfl)
theorem dL_law_235 : decode cL_law 235 = .ok (.if_icmp .eq 5, 3) := dk_159 0 5 (dk_at dksL_law_9 21 rfl rfl)
theorem dL_law_238 : decode cL_law 238 = .ok (.iconst 0, 1) := dk_3 (dk_at dksL_law_10 0 rfl rfl)
theorem dL_law_239 : decode cL_law 239 = .ok (.ireturn, 1) := dk_172 (dk_at dksL_law_10 1 rfl rfl)
theorem dL_law_240 : decode cL_law 240 = .ok (.iinc 3 6, 3) := dk_132 3 6 (dk_at dksL_law_10 2 rfl rfl)
theorem dL_law_243 : decode cL_law 243 = .ok (.goto (-225), 3) := dk_167 255 31 (dk_at dksL_law_10 5 rfl rfl)
theorem dL_law_246 : decode cL_law 246 = .ok (.iconst 1, 1) := dk_4 (dk_at dksL_law_10 8 rfl rfl)
theorem dL_law_247 : decode cL_law 247 = .ok (.ireturn, 1) := dk_172 (dk_at dksL_law_10 9 rfl rfl)
end
section
/-! THE PURE PART: Blowfish over a table of 1042 words (18 words, then four boxes of 256), no program in sight -/
theorem bf_nI_of {y : Int32} {n : Nat} (h : n < 2 ^ 32) (e : y.toBitVec.toNat = n) : y = nI n := by
  apply Int32.toBitVec_inj.mp
  apply BitVec.eq_of_toNat_eq
  rw [e, pk_tn h]
def bf_b3 (x : Int32) : Nat := x.toBitVec.toNat / 2 ^ 24
def bf_b2 (x : Int32) : Nat := x.toBitVec.toNat / 2 ^ 16 % 2 ^ 8
def bf_b1 (x : Int32) : Nat := x.toBitVec.toNat / 2 ^ 8 % 2 ^ 8
def bf_b0 (x : Int32) : Nat := x.toBitVec.toNat % 2 ^ 8
theorem bf_b3_lt (x : Int32) : bf_b3 x < 256 := by
  have h : x.toBitVec.toNat < 2 ^ 32 := x.toBitVec.isLt
  unfold bf_b3
  omega
theorem bf_b2_lt (x : Int32) : bf_b2 x < 256 := Nat.mod_lt _ (by decide)
theorem bf_b1_lt (x : Int32) : bf_b1 x < 256 := Nat.mod_lt _ (by decide)
theorem bf_b0_lt (x : Int32) : bf_b0 x < 256 := Nat.mod_lt _ (by decide)
theorem bf_u24 (x : Int32) : (x.toUInt32 >>> ((24 : Int32).toUInt32 &&& Int32.toUInt32 31)).toInt32 = nI (bf_b3 x) := by
  have h : x.toBitVec.toNat < 2 ^ 32 := x.toBitVec.isLt
  exact bf_nI_of (by have := bf_b3_lt x; omega) (pk_ushr x 24 24 (by decide))
theorem bf_u16 (x : Int32) : (x.toUInt32 >>> ((16 : Int32).toUInt32 &&& Int32.toUInt32 31)).toInt32 = nI (x.toBitVec.toNat / 2 ^ 16) := by
  have h : x.toBitVec.toNat < 2 ^ 32 := x.toBitVec.isLt
  exact bf_nI_of (by omega) (pk_ushr x 16 16 (by decide))
theorem bf_u8 (x : Int32) : (x.toUInt32 >>> ((8 : Int32).toUInt32 &&& Int32.toUInt32 31)).toInt32 = nI (x.toBitVec.toNat / 2 ^ 8) := by
  have h : x.toBitVec.toNat < 2 ^ 32 := x.toBitVec.isLt
  exact bf_nI_of (by omega) (pk_ushr x 8 8 (by decide))
theorem bf_a2 (x : Int32) : nI (x.toBitVec.toNat / 2 ^ 16) &&& 255 = nI (bf_b2 x) := by
  have h : x.toBitVec.toNat < 2 ^ 32 := x.toBitVec.isLt
  exact pk_andN (by omega) 8 (by decide)
theorem bf_a1 (x : Int32) : nI (x.toBitVec.toNat / 2 ^ 8) &&& 255 = nI (bf_b1 x) := by
  have h : x.toBitVec.toNat < 2 ^ 32 := x.toBitVec.isLt
  exact pk_andN (by omega) 8 (by decide)
theorem bf_a0 (x : Int32) : x &&& 255 = nI (bf_b0 x) := pk_and x 8 (by decide)
/-- the mixing function over the four boxes -/
def bf_F (T : Nat → Int32) (x : Int32) : Int32 := ((T (18 + bf_b3 x) + T (274 + bf_b2 x)) ^^^ T (530 + bf_b1 x)) + T (786 + bf_b0 x)
/-- n rounds over the words K -/
def bf_rn (T K : Nat → Int32) (a b : Int32) : Nat → Int32 × Int32
  | 0 => (a, b)
  | n + 1 => ((bf_rn T K a b n).2 ^^^ bf_F T ((bf_rn T K a b n).1 ^^^ K n), (bf_rn T K a b n).1 ^^^ K n)
/-- sixteen rounds and the end -/
def bf_cr (T K : Nat → Int32) (a b : Int32) : Int32 × Int32 := ((bf_rn T K a b 16).2 ^^^ K 17, (bf_rn T K a b 16).1 ^^^ K 16)
/-- two rounds as the engine takes them -/
theorem bf_two1 (T K : Nat → Int32) (a b : Int32) (n : Nat) : (bf_rn T K a b n).2 ^^^ (bf_F T ((bf_rn T K a b n).1 ^^^ K n) ^^^ K (n + 1)) = (bf_rn T K a b (n + 2)).2 := by
  show _ = ((bf_rn T K a b n).2 ^^^ bf_F T ((bf_rn T K a b n).1 ^^^ K n)) ^^^ K (n + 1)
  rw [Int32.xor_assoc]
theorem bf_two2 (T K : Nat → Int32) (a b : Int32) (n : Nat) : ((bf_rn T K a b n).1 ^^^ K n) ^^^ (bf_F T (bf_rn T K a b (n + 2)).2 ^^^ K (n + 2)) = (bf_rn T K a b (n + 2)).1 ^^^ K (n + 2) := by
  show _ = (((bf_rn T K a b n).1 ^^^ K n) ^^^ bf_F T ((bf_rn T K a b (n + 2)).2)) ^^^ K (n + 2)
  rw [← Int32.xor_assoc ((bf_rn T K a b n).1 ^^^ K n)]
/-- the words as they are taken: locked, or the other way round -/
def bf_K (T : Nat → Int32) (z : Bool) : Nat → Int32 := fun i => if z = true then T i else T (17 - i)
/-- n pairs of places, from k on, are locked anew, each pair by the table as it is then -/
def bf_st (T : Nat → Int32) (a b : Int32) (k : Nat) : Nat → (Nat → Int32) × Int32 × Int32
  | 0 => (T, a, b)
  | n + 1 => (upd (upd (bf_st T a b k n).1 (k + 2 * n) (bf_cr (bf_st T a b k n).1 (bf_st T a b k n).1 (bf_st T a b k n).2.1 (bf_st T a b k n).2.2).1) (k + 2 * n + 1) (bf_cr (bf_st T a b k n).1 (bf_st T a b k n).1 (bf_st T a b k n).2.1 (bf_st T a b k n).2.2).2, bf_cr (bf_st T a b k n).1 (bf_st T a b k n).1 (bf_st T a b k n).2.1 (bf_st T a b k n).2.2)
theorem bf_st_add (T : Nat → Int32) (a b : Int32) (k n : Nat) : ∀ j, bf_st T a b k (n + j) = bf_st (bf_st T a b k n).1 (bf_st T a b k n).2.1 (bf_st T a b k n).2.2 (k + 2 * n) j
  | 0 => rfl
  | j + 1 => by
    show bf_st T a b k ((n + j) + 1) = _
    unfold bf_st
    rw [bf_st_add T a b k n j]
    rw [show k + 2 * (n + j) = k + 2 * n + 2 * j by omega]
theorem bf_st_hi (T : Nat → Int32) (a b : Int32) (k n : Nat) : (bf_st T a b k (n + 1)).1 (k + 2 * n) = (bf_st T a b k (n + 1)).2.1 := by
  show upd (upd _ _ _) (k + 2 * n + 1) _ (k + 2 * n) = _
  rw [pk_un (by omega), pk_us]
  rfl
theorem bf_st_lo (T : Nat → Int32) (a b : Int32) (k n : Nat) : (bf_st T a b k (n + 1)).1 (k + 2 * n + 1) = (bf_st T a b k (n + 1)).2.2 := by
  show upd (upd _ _ _) (k + 2 * n + 1) _ (k + 2 * n + 1) = _
  rw [pk_us]
  rfl
/-- j bytes of the key's word i, the key of n bytes taken again and again -/
def bf_kw (f : Nat → Int32) (n i : Nat) : Nat → Int32
  | 0 => 0
  | j + 1 => (bf_kw f n i j <<< ((8 : Int32) &&& 31)) ||| (f ((4 * i + j) % n) &&& 255)
theorem bf_kw_congr {f g : Nat → Int32} {n : Nat} (hn : 0 < n) (h : ∀ j, j < n → f j &&& 255 = g j &&& 255) (i : Nat) : ∀ j, bf_kw f n i j = bf_kw g n i j
  | 0 => rfl
  | j + 1 => by
    unfold bf_kw
    rw [bf_kw_congr hn h i j, h _ (Nat.mod_lt _ hn)]
/-- the table with its first m words locked by the key -/
def bf_T0 (T f : Nat → Int32) (n m : Nat) : Nat → Int32 := fun k => if k < m then T k ^^^ bf_kw f n k 4 else T k
theorem bf_T0_0 (T f : Nat → Int32) (n : Nat) : bf_T0 T f n 0 = T := by
  funext k
  simp [bf_T0]
theorem bf_T0_s (T f : Nat → Int32) (n m : Nat) : upd (bf_T0 T f n m) m (bf_T0 T f n m m ^^^ bf_kw f n m 4) = bf_T0 T f n (m + 1) := by
  funext k
  unfold upd bf_T0
  by_cases h : k = m
  · subst h
    simp
  · rw [if_neg h]
    by_cases h2 : k < m
    · rw [if_pos h2, if_pos (by omega)]
    · rw [if_neg h2, if_neg (by omega)]
/-- the table that a key of n bytes makes -/
def bf_sch (T f : Nat → Int32) (n : Nat) : Nat → Int32 := (bf_st (bf_T0 T f n 18) 0 0 0 521).1
theorem bf_sch_congr {T f g : Nat → Int32} {n : Nat} (hn : 0 < n) (h : ∀ j, j < n → f j &&& 255 = g j &&& 255) : bf_sch T f n = bf_sch T g n := by
  have e : bf_T0 T f n 18 = bf_T0 T g n 18 := by
    funext k
    unfold bf_T0
    rw [bf_kw_congr hn h k 4]
  unfold bf_sch
  rw [e]
/-- j bytes from place k on, as a word -/
def bf_wd (f : Nat → Int32) (k : Nat) : Nat → Int32
  | 0 => 0
  | j + 1 => (bf_wd f k j <<< ((8 : Int32) &&& 31)) ||| (f (k + j) &&& 255)
/-- byte j of a word -/
def bf_by (w : Int32) (j : Nat) : Int32 := (w >>> (nI (24 - 8 * j) &&& 31)).toInt8.toInt32
/-- the first j bytes of a word, laid from place k on -/
def bf_pn (f : Nat → Int32) (k : Nat) (w : Int32) : Nat → Nat → Int32
  | 0 => f
  | j + 1 => upd (bf_pn f k w j) (k + j) (bf_by w j)
/-- a word laid from place k on -/
def bf_put (f : Nat → Int32) (k : Nat) (w : Int32) : Nat → Int32 := bf_pn f k w 4
/-- how many bytes of the key are taken -/
def bf_n (x : Int32) : Nat := 8 + 8 * (x.toBitVec.toNat % 4 % 3)
/-- what a run lays into the answer -/
def bf_out (T f b o : Nat → Int32) (n : Nat) (z : Bool) : Nat → Int32 :=
  bf_put (bf_put o 0 (bf_cr (bf_sch T f n) (bf_K (bf_sch T f n) z) (bf_wd b 0 4) (bf_wd b 4 4)).1) 4 (bf_cr (bf_sch T f n) (bf_K (bf_sch T f n) z) (bf_wd b 0 4) (bf_wd b 4 4)).2
/-- the first m places of g, laid over f as bytes -/
def bf_cp (f g : Nat → Int32) (m : Nat) : Nat → Int32 := fun k => if k < m then (g k).toInt8.toInt32 else f k
theorem bf_cp_0 (f g : Nat → Int32) : bf_cp f g 0 = f := by
  funext k
  simp [bf_cp]
theorem bf_cp_s (f g : Nat → Int32) (m : Nat) : upd (bf_cp f g m) m ((g m).toInt8.toInt32) = bf_cp f g (m + 1) := by
  funext k
  unfold upd bf_cp
  by_cases h : k = m
  · subst h
    simp
  · rw [if_neg h]
    by_cases h2 : k < m
    · rw [if_pos h2, if_pos (by omega)]
    · rw [if_neg h2, if_neg (by omega)]
/-- the first m places of g, laid over f -/
def bf_cq (f g : Nat → Int32) (m : Nat) : Nat → Int32 := fun k => if k < m then g k else f k
theorem bf_cq_0 (f g : Nat → Int32) : bf_cq f g 0 = f := by
  funext k
  simp [bf_cq]
theorem bf_cq_s (f g : Nat → Int32) (m : Nat) : upd (bf_cq f g m) m (g m) = bf_cq f g (m + 1) := by
  funext k
  unfold upd bf_cq
  by_cases h : k = m
  · subst h
    simp
  · rw [if_neg h]
    by_cases h2 : k < m
    · rw [if_pos h2, if_pos (by omega)]
    · rw [if_neg h2, if_neg (by omega)]
/-- a loop's count, downward -/
theorem bf_loop {P : Nat → Prop} {N : Nat} (hx : P N) (hs : ∀ i, i < N → P (i + 1) → P i) : ∀ i, i ≤ N → P i := by
  have key : ∀ d i, i + d = N → P i := by
    intro d
    induction d with
    | zero =>
      intro i h
      rw [show i = N by omega]
      exact hx
    | succ d ih =>
      intro i h
      exact hs i (by omega) (ih (i + 1) (by omega))
  intro i hi
  exact key (N - i) i (by omega)
end
section
/-! bytes and words -/
theorem bf_bb (x : Int32) : x.toInt8.toInt32.toInt8.toInt32 = x.toInt8.toInt32 := (vp_nar_byte _).symm.trans (pk_vb x)
theorem bf_sv (x : Int32) (y : Int32) (n : Nat) (h : (y.toBitVec.smod 32).toNat = n) : (x <<< y).toBitVec = x.toBitVec <<< n := by
  rw [← h]
  rfl
theorem bf_word (a b c d : Int32) : (((((a &&& 255) <<< ((24 : Int32) &&& 31)) ||| ((b &&& 255) <<< ((16 : Int32) &&& 31))) ||| ((c &&& 255) <<< ((8 : Int32) &&& 31))) ||| (d &&& 255)) = ((((((((0 : Int32) <<< ((8 : Int32) &&& 31)) ||| (a &&& 255)) <<< ((8 : Int32) &&& 31)) ||| (b &&& 255)) <<< ((8 : Int32) &&& 31)) ||| (c &&& 255)) <<< ((8 : Int32) &&& 31)) ||| (d &&& 255) := by
  generalize a &&& 255 = a
  generalize b &&& 255 = b
  generalize c &&& 255 = c
  generalize d &&& 255 = d
  have h8 : ∀ x : Int32, (x <<< ((8 : Int32) &&& 31)).toBitVec = x.toBitVec <<< 8 := fun x => bf_sv x _ 8 (by decide)
  have h16 : ∀ x : Int32, (x <<< ((16 : Int32) &&& 31)).toBitVec = x.toBitVec <<< 16 := fun x => bf_sv x _ 16 (by decide)
  have h24 : ∀ x : Int32, (x <<< ((24 : Int32) &&& 31)).toBitVec = x.toBitVec <<< 24 := fun x => bf_sv x _ 24 (by decide)
  apply Int32.toBitVec_inj.mp
  simp only [Int32.toBitVec_or, h8, h16, h24, BitVec.shiftLeft_or_distrib, ← BitVec.shiftLeft_add]
  have z : (0 : Int32).toBitVec <<< 8 = 0#32 := by decide
  simp [z]
theorem bf_by0 (x : Int32) : (x >>> ((24 : Int32) &&& 31)).toInt8.toInt32 = bf_by x 0 := rfl
theorem bf_by1 (x : Int32) : (x >>> ((16 : Int32) &&& 31)).toInt8.toInt32 = bf_by x 1 := rfl
theorem bf_by2 (x : Int32) : (x >>> ((8 : Int32) &&& 31)).toInt8.toInt32 = bf_by x 2 := rfl
theorem bf_by3 (x : Int32) : x.toInt8.toInt32 = bf_by x 3 := by
  show _ = (x >>> ((0 : Int32) &&& 31)).toInt8.toInt32
  rw [sb_shr0]
theorem bf_put_rev (f : Nat → Int32) (k : Nat) (x : Int32) : upd (upd (upd (upd f (k + 3) (bf_by x 3)) (k + 2) (bf_by x 2)) (k + 1) (bf_by x 1)) k (bf_by x 0) = bf_put f k x := by
  funext j
  show _ = upd (upd (upd (upd f (k + 0) (bf_by x 0)) (k + 1) (bf_by x 1)) (k + 2) (bf_by x 2)) (k + 3) (bf_by x 3) j
  unfold upd
  by_cases h0 : j = k
  · subst h0
    simp
  · by_cases h1 : j = k + 1
    · subst h1
      simp
    · by_cases h2 : j = k + 2
      · subst h2
        simp
      · by_cases h3 : j = k + 3
        · subst h3
          simp
        · simp [h0, h1, h2, h3]
theorem bf_put_fwd (f : Nat → Int32) (k : Nat) (x : Int32) : upd (upd (upd (upd f k (bf_by x 0)) (k + 1) (bf_by x 1)) (k + 2) (bf_by x 2)) (k + 3) (bf_by x 3) = bf_put f k x := rfl
/-- two words in a long, and out of it -/
def bf_lg (a b : Int32) : Int64 := (a.toInt64 <<< ((32 : Int32).toInt64 &&& 63)) ||| (b.toInt64 &&& 4294967295)
theorem bf_m32 (i : Nat) : (4294967295 : Int64).toBitVec.getLsbD i = decide (i < 32) := by
  show (BitVec.ofNat 64 (2 ^ 32 - 1)).getLsbD i = _
  rw [BitVec.getLsbD_ofNat, Nat.testBit_two_pow_sub_one]
  by_cases h : i < 32
  · have h2 : i < 64 := by omega
    simp [h, h2]
  · simp [h]
theorem bf_se (a : Int32) (i : Nat) (hi : i < 32) : a.toInt64.toBitVec.getLsbD i = a.toBitVec.getLsbD i := by
  show (a.toBitVec.signExtend 64).getLsbD i = _
  rw [BitVec.getLsbD_signExtend, if_pos hi]
  simp
  omega
theorem bf_tr (x : Int64) (i : Nat) (hi : i < 32) : x.toInt32.toBitVec.getLsbD i = x.toBitVec.getLsbD i := by
  show (x.toBitVec.signExtend 32).getLsbD i = _
  rw [BitVec.getLsbD_signExtend, if_pos (by omega)]
  simp [hi]
theorem bf_lg_bv (a b : Int32) : (bf_lg a b).toBitVec = (a.toInt64.toBitVec <<< 32) ||| (b.toInt64.toBitVec &&& (4294967295 : Int64).toBitVec) := by
  have e1 : ((32 : Int32).toInt64 &&& 63) = (32 : Int64) := by decide
  unfold bf_lg
  rw [e1]
  rfl
theorem bf_lg_lo (a b : Int32) : (bf_lg a b).toInt32 = b := by
  apply Int32.toBitVec_inj.mp
  apply BitVec.eq_of_getLsbD_eq
  intro i hi
  rw [bf_tr _ i hi, bf_lg_bv, BitVec.getLsbD_or, BitVec.getLsbD_and, bf_m32, bf_se b i hi, BitVec.getLsbD_shiftLeft]
  simp [hi]
theorem bf_lg_hi (a b : Int32) : ((bf_lg a b).toUInt64 >>> ((32 : Int32).toInt64.toUInt64 &&& Int64.toUInt64 63)).toInt64.toInt32 = a := by
  have e2 : ((32 : Int32).toInt64.toUInt64 &&& Int64.toUInt64 63) = (32 : UInt64) := by decide
  have e3 : ((bf_lg a b).toUInt64 >>> (32 : UInt64)).toInt64.toBitVec = (bf_lg a b).toBitVec >>> 32 := rfl
  rw [e2]
  apply Int32.toBitVec_inj.mp
  apply BitVec.eq_of_getLsbD_eq
  intro i hi
  rw [bf_tr _ i hi, e3, BitVec.getLsbD_ushiftRight, bf_lg_bv, BitVec.getLsbD_or, BitVec.getLsbD_and, bf_m32, BitVec.getLsbD_shiftLeft, show 32 + i - 32 = i by omega, bf_se a i hi]
  have h2 : 32 + i < 64 := by omega
  have h3 : ¬ 32 + i < 32 := by omega
  simp [h2, h3]
theorem bf_lg_0 : (0 : Int64) = bf_lg 0 0 := by decide
end
section
/-! ROWS OF OUR OWN over the kit's: places as natural numbers, one list of array classes all through, a call and what comes back in one row -/
abbrev vwCl : List vw_C := [(RX0, TX0, 3), (RX1, TX1, 4), (RX2, TX2, 7), (RX3, TX3, 1)]
abbrev bfT (cB cI : ClassId) : List (ClassId × FieldType) := [(cB, .byte), (cI, .int)]
theorem bf_cell {cA : ClassId} {n : Nat} {f g : Nat → Int32} (h : ∀ j, j < n → f j = g j) : vp_cell cA (n, .inl f) = vp_cell cA (n, .inl g) := by
  rw [vp_cell_i, vp_cell_i]
  unfold arrV
  congr 1
  apply congrArg
  funext j
  show Value.int (f j.val) = Value.int (g j.val)
  rw [h j.val j.isLt]
/-- the contents of an array at a place, changed to what is the same within its length -/
theorem bf_P.re {D : va_G} {cl : List vw_C} {ws ws' : va_W} {H : Heap} (h : va_P D cl ws H) (q0 : Nat) {a : Nat} {cA : ClassId} {n : Nat} {f g : Nat → Int32} (ha : ws[q0]? = some (a, .inl (cA, n, .inl f))) (hg : ∀ j, j < n → f j = g j) (hs : ws.set q0 (a, .inl (cA, n, .inl g)) = ws') : va_P D cl ws' H := by
  subst hs
  intro k q hk
  by_cases hkq : k = q0
  · subst hkq
    rw [List.getElem?_set_self (List.getElem?_eq_some_iff.mp ha).1] at hk
    cases hk
    have := h k _ ha
    show H[a]? = some (vp_cell cA (n, .inl g))
    rw [← bf_cell hg]
    exact this
  · rw [List.getElem?_set_ne (Ne.symm hkq)] at hk
    exact h k q hk
theorem bf_D.re {A : Nat → Prop} {ws ws' : va_W} (h : va_D A ws) (L : List Nat) (hs1 : ws.map (·.1) = L) (hs2 : ws'.map (·.1) = L) : va_D A ws' := by
  have hs : ws.map (·.1) = ws'.map (·.1) := hs1.trans hs2.symm
  have key : ∀ (k : Nat) (q : Nat × va_E), ws'[k]? = some q → ∃ p, ws[k]? = some p ∧ p.1 = q.1 := by
    intro k q hk
    have h1 : (ws'.map (·.1))[k]? = some q.1 := by rw [List.getElem?_map, hk]; rfl
    rw [← hs, List.getElem?_map] at h1
    cases hp : ws[k]? with
    | none => rw [hp] at h1; cases h1
    | some p => rw [hp] at h1; exact ⟨p, rfl, Option.some.inj h1⟩
  refine ⟨fun i j p q hi hj e => ?_, fun k q hk => ?_⟩
  · obtain ⟨p', h1, h2⟩ := key i p hi
    obtain ⟨q', h3, h4⟩ := key j q hj
    exact h.1 i j p' q' h1 h3 (by rw [h2, h4]; exact e)
  · obtain ⟨p', h1, h2⟩ := key k q hk
    rw [← h2]
    exact h.2 k p' h1
section BFR
variable {p : Program} {l : Launch} {e : Env} {R : Room} {s : State} {m : MethodId} {args : Array Value} {below : List Frame} {meth : Method} {c : Code} {H : Heap} {locs : List Loc} {cells slots : Nat} {Q : State → Prop}
variable {cc : ByteArray} {pc : Nat} {ls : Array Slot} {rest : List Value} {D : va_G} {cl : List vw_C} {A : Nat → Prop} {a : Nat} {tys : List (ClassId × FieldType)} {ws : va_W} {H0 : Heap}
theorem bf_topE {x y : Int32} (h : x = y) (k : W p l e R s m args below meth c H locs cells slots Q (F0 m pc ls (.int y :: rest))) : W p l e R s m args below meth c H locs cells slots Q (F0 m pc ls (.int x :: rest)) := by
  rw [h]
  exact k
theorem bf_topL {x y : Int64} (h : x = y) (k : W p l e R s m args below meth c H locs cells slots Q (F0 m pc ls (.long y :: rest))) : W p l e R s m args below meth c H locs cells slots Q (F0 m pc ls (.long x :: rest)) := by
  rw [h]
  exact k
theorem bf_iald (hexec : p.tables.exec = Jvm.exec) (hb : c.code = cc) (hK : va_K D cl tys s) (hP : va_P D cl ws H) (q0 t0 : Nat) {cA : ClassId} {n : Nat} {f : Nat → Int32} (ha : ws[q0]? = some (a, .inl (cA, n, .inl f))) (ht : tys[t0]? = some (cA, .int)) (hdg : decode cc pc = .ok (.iaload, 1)) {i : Int32} (k : Nat) (hi : i = nI k) (hk : k < n) (hn : n < 2 ^ 31)
    (kk : W p l e R s m args below meth c H locs cells slots Q (F0 m (pc + 1) ls (.int (f k) :: rest))) : W p l e R s m args below meth c H locs cells slots Q (F0 m pc ls (.int i :: .ref a :: rest)) := by
  subst hi
  refine va_iald hexec hb hK hP q0 t0 ha ht (vp_in_nI hk hn) hdg ?_
  rw [nI_clamp (Nat.lt_trans hk hn)]
  exact kk
theorem bf_bald (hexec : p.tables.exec = Jvm.exec) (hb : c.code = cc) (hK : va_K D cl tys s) (hP : va_P D cl ws H) (q0 t0 : Nat) {cA : ClassId} {n : Nat} {f : Nat → Int32} (ha : ws[q0]? = some (a, .inl (cA, n, .inl f))) (ht : tys[t0]? = some (cA, .byte)) (hdg : decode cc pc = .ok (.baload, 1)) {i : Int32} (k : Nat) (hi : i = nI k) (hk : k < n) (hn : n < 2 ^ 31)
    (kk : W p l e R s m args below meth c H locs cells slots Q (F0 m (pc + 1) ls (.int (f k) :: rest))) : W p l e R s m args below meth c H locs cells slots Q (F0 m pc ls (.int i :: .ref a :: rest)) := by
  subst hi
  refine va_bald hexec hb hK hP q0 t0 ha ht (vp_in_nI hk hn) hdg ?_
  rw [nI_clamp (Nat.lt_trans hk hn)]
  exact kk
theorem bf_iast (hexec : p.tables.exec = Jvm.exec) (hb : c.code = cc) (hK : va_K D cl tys s) (hP : va_P D cl ws H) (hD : va_D A ws) (hS : va_S A H0 H locs) (q0 t0 : Nat) {cA : ClassId} {n : Nat} {f : Nat → Int32} (ha : ws[q0]? = some (a, .inl (cA, n, .inl f))) (ht : tys[t0]? = some (cA, .int)) (hdg : decode cc pc = .ok (.iastore, 1)) {i x : Int32} (k : Nat) (hi : i = nI k) (hk : k < n) (hn : n < 2 ^ 31)
    (kk : ∀ (H1 : Heap) (locs1 : List Loc), va_P D cl (ws.set q0 (a, .inl (cA, n, .inl (upd f k x)))) H1 → va_D A (ws.set q0 (a, .inl (cA, n, .inl (upd f k x)))) → va_S A H0 H1 locs1 → W p l e R s m args below meth c H1 locs1 cells slots Q (F0 m (pc + 1) ls rest)) : W p l e R s m args below meth c H locs cells slots Q (F0 m pc ls (.int x :: .int i :: .ref a :: rest)) := by
  subst hi
  refine va_iast hexec hb hK hP hD hS q0 t0 ha ht (vp_in_nI hk hn) hdg ?_
  rw [nI_clamp (Nat.lt_trans hk hn)]
  exact kk
theorem bf_bast (hexec : p.tables.exec = Jvm.exec) (hb : c.code = cc) (hK : va_K D cl tys s) (hP : va_P D cl ws H) (hD : va_D A ws) (hS : va_S A H0 H locs) (q0 t0 : Nat) {cA : ClassId} {n : Nat} {f : Nat → Int32} (ha : ws[q0]? = some (a, .inl (cA, n, .inl f))) (ht : tys[t0]? = some (cA, .byte)) (hdg : decode cc pc = .ok (.bastore, 1)) {i x : Int32} (k : Nat) (hi : i = nI k) (hk : k < n) (hn : n < 2 ^ 31) (y : Int32) (hy : x.toInt8.toInt32 = y)
    (kk : ∀ (H1 : Heap) (locs1 : List Loc), va_P D cl (ws.set q0 (a, .inl (cA, n, .inl (upd f k y)))) H1 → va_D A (ws.set q0 (a, .inl (cA, n, .inl (upd f k y)))) → va_S A H0 H1 locs1 → W p l e R s m args below meth c H1 locs1 cells slots Q (F0 m (pc + 1) ls rest)) : W p l e R s m args below meth c H locs cells slots Q (F0 m pc ls (.int x :: .int i :: .ref a :: rest)) := by
  subst hi
  refine va_bast hexec hb hK hP hD hS q0 t0 ha ht (vp_in_nI hk hn) hdg ?_
  rw [nI_clamp (Nat.lt_trans hk hn), vp_nar_byte, hy]
  exact kk
theorem bf_newa (hexec : p.tables.exec = Jvm.exec) (hb : c.code = cc) {atype : ArrayType} (harr : (Cond.arrayClass (newarray.typeOf atype)).before args s = true) {ty : FieldType} (hty : newarray.typeOf atype = ty) (hK : va_K D cl tys s) (t0 : Nat) {cA0 : ClassId} (ht : tys[t0]? = some (cA0, ty)) (hra : ∀ z z' : ClassId, va_RA s z ty → va_RA s z' ty → z = z') (hP : va_P D cl ws H) (hD : va_D A ws) (hS : va_S A H0 H locs) (hA : ∀ q, H0.size ≤ q → A q)
    (hdg : decode cc pc = .ok (.newarray atype, 2)) {n : Int32} (N' : Nat) (hn : n = nI N') (hN : N' < 2 ^ 31) (a0 : vp_A) (ha : ∀ cA : ClassId, vp_cell cA a0 = arrV cA N' (fun _ => defaultValue ty)) (hbytes : N' * componentBytes ty ≤ 536870912) (hcells : cells + 1 ≤ R.cells) (hslots : slots + N' ≤ R.slots)
    (kk : ∀ (q : Nat) (H1 : Heap), va_P D cl (ws ++ [(q, .inl (cA0, a0))]) H1 → va_D A (ws ++ [(q, .inl (cA0, a0))]) → va_S A H0 H1 locs →
      W p l e R s m args below meth c H1 locs (cells + 1) (slots + N') Q (F0 m (pc + 2) ls (.ref q :: rest))) : W p l e R s m args below meth c H locs cells slots Q (F0 m pc ls (.int n :: rest)) := by
  subst hn
  refine va_newa hexec hb harr hty hK hP hD hS hA ha (nI_pos hN) (nI_clamp hN) hbytes hcells hslots hdg (fun q cA H1 hK1 hP1 hD1 hS1 => ?_)
  have e1 : cA = cA0 := hra _ _ (hK1.2 tys.length (cA, ty) (by simp)).2 (hK.2 t0 _ ht).2
  subst e1
  exact kk q H1 hP1 hD1 hS1
/-- System.arraycopy of a whole static table of ints into an array of its length -/
theorem bf_copyT {cc : ByteArray} (hexec : p.tables.exec = Jvm.exec) (hb : c.code = cc) (hml : c.maxLocals = ls.size) {own : String} {index : Nat} (hown : s.vm.findClass own = some m.cls) (hlink : (Cond.methodLink own index arraycopyName).before args s = true) (hnat : (Cond.native arraycopyName).before args s = true) (hstat : (Cond.static arraycopyName).before args s = true) (hini : (Cond.initialized "java/lang/System").before args s = true)
    (hK : va_K D cl tys s) (hP : va_P D cl ws H) (hD : va_D A ws) (hS : va_S A s.heap H locs) {b0 N : Nat} {f : Nat → Int32} (hX : va_T .int b0 N (fun j => .int (f j)) A s s.heap) (q1 t1 : Nat) {c1 : ClassId} {g : Nat → Int32} (ha1 : ws[q1]? = some (a, .inl (c1, N, .inl g))) (ht1 : tys[t1]? = some (c1, .int))
    {n : Int32} (hn : n = nI N) (hN : N < 2 ^ 31)
    (hframes : 1 ≤ R.frames) (hlocals : (rest.map fun v => v.category).sum + (nativeFrameWords "java/lang/System" "arraycopy" 5 + 11) ≤ R.locals) (hdg : decode cc pc = .ok (.invokestatic index, 3))
    (kk : ∀ (H1 : Heap) (locs1 : List Loc), va_P D cl (ws.set q1 (a, .inl (c1, N, .inl f))) H1 → va_D A (ws.set q1 (a, .inl (c1, N, .inl f))) → va_S A s.heap H1 locs1 → W p l e R s m args below meth c H1 locs1 cells slots Q (F0 m (pc + 3) ls rest)) : W p l e R s m args below meth c H locs cells slots Q (F0 m pc ls (.int n :: .int 0 :: .ref a :: .int 0 :: .ref b0 :: rest)) := by
  subst hn
  obtain ⟨scr, hs1, hs2, hs3, hs4, -, hs6, hs7⟩ := hX
  obtain ⟨hs8, k0, hk0, cm0, hkk0⟩ := hs2
  obtain ⟨-, k1, hk1, cm1, hkk1⟩ := (hK.2 t1 _ ht1).1 N (fun j => .int (g j))
  have hc0 : H[b0]? = some scr := by rw [hS.2.1 b0 (Array.getElem?_eq_some_iff.mp hs1).1 hs7]; exact hs1
  have hc1 : H[a]? = some (vp_cell c1 (N, .inl g)) := hP q1 _ ha1
  have z0 : (0 : Int32).toNatClampNeg = 0 := by decide
  have z1 : (0 : Int32).toInt = 0 := by decide
  have zn : (nI N).toNatClampNeg = N := nI_clamp hN
  have zi : (nI N).toInt = (N : Int) := nI_toInt hN
  intro T hT X
  obtain ⟨vm', X', step⟩ := X.arraycopy hexec hown hlink hnat hstat hini (src := b0) (dst := a) (cs := scr) (cd := vp_cell c1 (N, .inl g)) (srcPos := 0) (destPos := 0) (n := nI N) (by rw [hT]; exact hc0) (by rw [hT]; exact hc1)
    hs8 (fun _ h => by cases h) hs3 (fun h => by cases h) hk0 hk1 hkk0 hkk1 (by simp [refKind]) (by decide) (by decide) (nI_pos hN)
    (by rw [z1, zi]; omega)
    (by rw [z1, zi]; show ¬ _ > ((arrV c1 N (fun j => .int (g j))).slots.size : Int); rw [arrV_size]; omega)
    (fun vm₁ _ i hi => by
      have hi : i < N := by rw [zn] at hi; exact hi
      have e : scr.slots.getD ((0 : Int32).toNatClampNeg + i) .null = .int (f i) := by
        rw [z0, Nat.zero_add, Array.getD_eq_getD_getElem?, hs6 _ hi]
        rfl
      refine ⟨?_, ?_⟩
      · rw [e]
        rfl
      · rw [e]
        exact trivial)
    (g := F0 m pc ls (.int (nI N) :: .int 0 :: .ref a :: .int 0 :: .ref b0 :: rest)) rfl (by rw [hml]) (rest := rest) rfl (by rw [hb]; exact hdg) hframes (by show 2 * 0 + _ + _ ≤ _; omega)
  have e1 : copied scr (vp_cell c1 (N, .inl g)) 0 0 (nI N) = vp_cell c1 (N, .inl f) := by
    have e0 : copied scr (vp_cell c1 (N, .inl g)) 0 0 (nI N) = vp_cell c1 (N, .inl (va_cpy f g (0 : Int32).toNatClampNeg (0 : Int32).toNatClampNeg (nI N).toNatClampNeg)) := va_copiedX (fun z => .int z) scr c1 (n0 := N) f g hs6 (by rw [z0, zn]; omega)
    rw [e0]
    apply bf_cell
    intro j hj
    rw [z0, zn, pk_cpy_in (Nat.zero_le j) (by omega)]
    simp
  rw [e1] at X' step
  have hl : a < H.size := (Array.getElem?_eq_some_iff.mp hc1).1
  have hheap : ((T.setVm vm').setCell a (vp_cell c1 (N, .inl f))).heap = H.setIfInBounds a (vp_cell c1 (N, .inl f)) := by rw [← hT]; rfl
  have oq : ∀ q : Nat, q ≠ a → (H.setIfInBounds a (vp_cell c1 (N, .inl f)))[q]? = H[q]? := fun q hq => by simp [Array.getElem?_setIfInBounds, Ne.symm hq]
  obtain ⟨t, a1, b1⟩ := kk _ _ (hP.set hD ha1 (show (H.setIfInBounds a _)[a]? = some _ by simp [Array.getElem?_setIfInBounds, hl]) oq) (hD.set ha1) ⟨by simp; exact hS.1, fun q g1 g2 => by
      rw [oq q (fun e => g2 (by rw [e]; exact hD.2 q1 _ ha1))]
      exact hS.2.1 q g1 g2, fun q hq => by
      rcases List.mem_append.mp hq with h | h
      · exact hS.2.2 q h
      · obtain ⟨z, -, hz⟩ := List.mem_map.mp h
        rw [← hz]
        exact hD.2 q1 _ ha1⟩ _ hheap X'
  exact ⟨t, step t a1, b1⟩
end BFR
/-! contracts' starts and ends -/
/-- a method's start: its world ws, the heap's size, the classes -/
def bfPre (D : va_G) (cB cI : ClassId) (ws : va_W) (sz : Nat) (U : State) : Prop := U.heap.size = sz ∧ va_P D vwCl ws U.heap ∧ va_K D vwCl (bfT cB cI) U ∧ va_D (fun _ => True) ws
/-- a reading method's start: its world -/
def bfRd (D : va_G) (cB cI : ClassId) (ws : va_W) (U : State) : Prop := va_P D vwCl ws U.heap ∧ va_K D vwCl (bfT cB cI) U
/-- a method's end: its world is ws -/
def bfPost (D : va_G) (ws : va_W) (A : Nat → Prop) (t : State) : Prop := va_P D vwCl ws t.heap ∧ va_D A ws
theorem bf_blind {D : va_G} {cB cI : ClassId} {ws : va_W} {sz : Nat} {av : List Value} : FrameBlind (va_Pc av (bfPre D cB cI ws sz)) := by
  intro a U g mk q
  obtain ⟨q0, q1, qP, qK, qD⟩ := q
  exact ⟨q0, q1, qP, va_K.moved (u := U) (U := U.calling g mk a) (Vm.Alike.refl U.vm) qK, qD⟩
theorem bf_blindR {D : va_G} {cB cI : ClassId} {ws : va_W} {av : List Value} : FrameBlind (va_Pc av (bfRd D cB cI ws)) := by
  intro a U g mk q
  obtain ⟨q0, qP, qK⟩ := q
  exact ⟨q0, qP, va_K.moved (u := U) (U := U.calling g mk a) (Vm.Alike.refl U.vm) qK⟩
section BFC
variable {p : Program} {l : Launch} {e : Env} {R : Room} {s : State} {m : MethodId} {args : Array Value} {below : List Frame} {meth : Method} {c : Code} {H : Heap} {locs : List Loc} {cells slots : Nat} {Q : State → Prop}
variable {pc : Nat} {ls : Array Slot} {rest st0 : List Value} {a : Array Value} {D : va_G} {A : Nat → Prop} {H0 : Heap} {mc ms : Nat} {cB cI : ClassId} {ws wc wr w1 : va_W}
theorem bf_preS (hK : va_K D vwCl (bfT cB cI) s) (hP : va_P D vwCl ws H) (hD : va_D A ws) (isC : List Nat) (hn : va_nd isC = true) (hC : isC.map (fun i => ws[i]?) = wc.map some) {As : List Value} : PreS s H (va_Pc As (bfPre D cB cI wc H.size)) As := by
  have hPc : va_P D vwCl wc H := by
    intro k q hk
    have h1 : (isC.map (fun i => ws[i]?))[k]? = some (some q) := by rw [hC, List.getElem?_map, hk]; rfl
    rw [List.getElem?_map] at h1
    cases hi : isC[k]? with
    | none => rw [hi] at h1; cases h1
    | some i => rw [hi] at h1; exact hP i q (Option.some.inj h1)
  exact ⟨bf_blind, fun U hU hW => ⟨rfl, by rw [hU], by rw [hU]; exact hPc, va_K.moved hW.alike hK, (hD.sub isC hn hC).weaken (fun _ _ _ _ => trivial)⟩⟩
theorem bf_preV (hK : va_K D vwCl (bfT cB cI) s) (hP : va_P D vwCl ws H) (hD : va_D A ws) (isC : List Nat) (hn : va_nd isC = true) (hC : isC.map (fun i => ws[i]?) = wc.map some) {As : List Value} {b : Nat} {ci : Nat} {cq : vw_C} {q0 : Nat} {fs : List Value} (hc : vwCl[ci]? = some cq) (he : ws[q0]? = some (b, .inr (ci, fs))) : PreV s H cq.1 b (va_Pc (.ref b :: As) (bfPre D cB cI wc H.size)) As :=
  ⟨bf_blind, va_recv hK hP hc he, (bf_preS hK hP hD isC hn hC).2⟩
theorem bf_rdS (hK : va_K D vwCl (bfT cB cI) s) (hP : va_P D vwCl ws H) (isC : List Nat) (hC : isC.filterMap (fun i => ws[i]?) = wc) {As : List Value} : PreS s H (va_Pc As (bfRd D cB cI wc)) As :=
  ⟨bf_blindR, fun U hU hW => ⟨rfl, by rw [hU]; exact hP.sub isC hC, va_K.moved hW.alike hK⟩⟩
theorem bf_rdV (hK : va_K D vwCl (bfT cB cI) s) (hP : va_P D vwCl ws H) (isC : List Nat) (hC : isC.filterMap (fun i => ws[i]?) = wc) {As : List Value} {b : Nat} {ci : Nat} {cq : vw_C} {q0 : Nat} {fs : List Value} (hc : vwCl[ci]? = some cq) (he : ws[q0]? = some (b, .inr (ci, fs))) : PreV s H cq.1 b (va_Pc (.ref b :: As) (bfRd D cB cI wc)) As :=
  ⟨bf_blindR, va_recv hK hP hc he, (bf_rdS hK hP isC hC).2⟩
/-- a void call: its cells come back as w1 beside the rest -/
theorem bf_callv {S : Type} {w1 : S → va_W} (hr : va_Run p l e R s m args below meth c H locs cells slots mc ms (F0 m pc ls st0) rest (va_Qv (fun _ : S => True) (fun u t => bfPost D (w1 u) (va_A wc H.size) t) (va_A wc H.size) a) (va_A wc H.size)) (hP : va_P D vwCl ws H) (hD : va_D A ws) (hS : va_S A H0 H locs) (hA : ∀ q, H0.size ≤ q → A q)
    (isC isR : List Nat) (hC : isC.map (fun i => ws[i]?) = wc.map some) (hR : isR.map (fun i => ws[i]?) = wr.map some) (hn : va_nd isR = true) (hdis : ∀ i ∈ isR, i ∉ isC)
    (kk : ∀ (u : S) (H1 : Heap) (locs1 : List Loc), va_P D vwCl (wr ++ w1 u) H1 → va_D A (wr ++ w1 u) → va_S A H0 H1 locs1 → W p l e R s m args below meth c H1 locs1 (cells + mc) (slots + ms) Q (F0 m (pc + 3) ls rest)) : W p l e R s m args below meth c H locs cells slots Q (F0 m pc ls st0) := by
  have hFc := va_free (wc := wc) hD hS hA isC hC
  refine va_callv hr hS (fun q _ h => hFc q h) hFc (fun u t H1 locs1 ht hvm hw hB hz1 hk1 hS1 => ?_)
  obtain ⟨hP1, hD1⟩ := hB
  rw [ht] at hP1
  obtain ⟨hP2, hD2⟩ := va_join hP hD isC isR hC hR hn hdis hk1 hFc hP1 hD1
  exact kk u H1 locs1 hP2 hD2 hS1
/-- the same through an interface -/
theorem bf_callFv {S : Type} {w1 : S → va_W} (hr : va_Run5 p l e R s m args below meth c H locs cells slots mc ms (F0 m pc ls st0) rest (va_Qv (fun _ : S => True) (fun u t => bfPost D (w1 u) (va_A wc H.size) t) (va_A wc H.size) a) (va_A wc H.size)) (hP : va_P D vwCl ws H) (hD : va_D A ws) (hS : va_S A H0 H locs) (hA : ∀ q, H0.size ≤ q → A q)
    (isC isR : List Nat) (hC : isC.map (fun i => ws[i]?) = wc.map some) (hR : isR.map (fun i => ws[i]?) = wr.map some) (hn : va_nd isR = true) (hdis : ∀ i ∈ isR, i ∉ isC)
    (kk : ∀ (u : S) (H1 : Heap) (locs1 : List Loc), va_P D vwCl (wr ++ w1 u) H1 → va_D A (wr ++ w1 u) → va_S A H0 H1 locs1 → W p l e R s m args below meth c H1 locs1 (cells + mc) (slots + ms) Q (F0 m (pc + 5) ls rest)) : W p l e R s m args below meth c H locs cells slots Q (F0 m pc ls st0) := by
  have hFc := va_free (wc := wc) hD hS hA isC hC
  refine va_callFv hr hS (fun q _ h => hFc q h) hFc (fun u t H1 locs1 ht hvm hw hB hz1 hk1 hS1 => ?_)
  obtain ⟨hP1, hD1⟩ := hB
  rw [ht] at hP1
  obtain ⟨hP2, hD2⟩ := va_join hP hD isC isR hC hR hn hdis hk1 hFc hP1 hD1
  exact kk u H1 locs1 hP2 hD2 hS1
/-- the same with an int that nobody reads -/
theorem bf_callFi {S : Type} {w1 : S → va_W} (hr : va_Run5 p l e R s m args below meth c H locs cells slots mc ms (F0 m pc ls st0) rest (va_Qi (fun (_ : Int32) (_ : S) => True) (fun u t => bfPost D (w1 u) (va_A wc H.size) t) (va_A wc H.size) a) (va_A wc H.size)) (hP : va_P D vwCl ws H) (hD : va_D A ws) (hS : va_S A H0 H locs) (hA : ∀ q, H0.size ≤ q → A q)
    (isC isR : List Nat) (hC : isC.map (fun i => ws[i]?) = wc.map some) (hR : isR.map (fun i => ws[i]?) = wr.map some) (hn : va_nd isR = true) (hdis : ∀ i ∈ isR, i ∉ isC)
    (kk : ∀ (r : Int32) (u : S) (H1 : Heap) (locs1 : List Loc), va_P D vwCl (wr ++ w1 u) H1 → va_D A (wr ++ w1 u) → va_S A H0 H1 locs1 → W p l e R s m args below meth c H1 locs1 (cells + mc) (slots + ms) Q (F0 m (pc + 5) ls (.int r :: rest))) : W p l e R s m args below meth c H locs cells slots Q (F0 m pc ls st0) := by
  have hFc := va_free (wc := wc) hD hS hA isC hC
  refine va_callFi hr hS (fun q _ h => hFc q h) hFc (fun r u t H1 locs1 ht hvm hw hB hz1 hk1 hS1 => ?_)
  obtain ⟨hP1, hD1⟩ := hB
  rw [ht] at hP1
  obtain ⟨hP2, hD2⟩ := va_join hP hD isC isR hC hR hn hdis hk1 hFc hP1 hD1
  exact kk r u H1 locs1 hP2 hD2 hS1
/-- reading calls: nothing changes, the answer is known -/
theorem bf_calli {v : Int32} (hr : CallRun p l e R s m args below meth c H locs cells slots 0 0 (F0 m pc ls st0) rest (vp_Si (fun r => r = v) a) (fun _ => False))
    (kk : W p l e R s m args below meth c H locs cells slots Q (F0 m (pc + 3) ls (.int v :: rest))) : W p l e R s m args below meth c H locs cells slots Q (F0 m pc ls st0) := vp_callSi hr (fun r e => by rw [e]; exact kk)
theorem bf_calll {v : Int64} (hr : CallRun p l e R s m args below meth c H locs cells slots 0 0 (F0 m pc ls st0) rest (vp_Sl (fun r => r = v) a) (fun _ => False))
    (kk : W p l e R s m args below meth c H locs cells slots Q (F0 m (pc + 3) ls (.long v :: rest))) : W p l e R s m args below meth c H locs cells slots Q (F0 m pc ls st0) := vp_callSl hr (fun r e => by rw [e]; exact kk)
/-- a loop that is gone through from i to N, its state a function of the count -/
theorem bf_while (N : Nat) (I : Nat → Heap → List Loc → Array Slot → Prop) (fc fs : Nat → Nat) (i : Nat) (hi : i ≤ N) (h0 : I i H locs ls) {st : List Value}
    (hx : ∀ (H : Heap) (locs : List Loc) (ls : Array Slot), I N H locs ls → W p l e R s m args below meth c H locs (fc N) (fs N) Q (F0 m pc ls st))
    (hs : ∀ (i : Nat), i < N → (∀ (H : Heap) (locs : List Loc) (ls : Array Slot), I (i + 1) H locs ls → W p l e R s m args below meth c H locs (fc (i + 1)) (fs (i + 1)) Q (F0 m pc ls st)) → ∀ (H : Heap) (locs : List Loc) (ls : Array Slot), I i H locs ls → W p l e R s m args below meth c H locs (fc i) (fs i) Q (F0 m pc ls st)) :
    W p l e R s m args below meth c H locs (fc i) (fs i) Q (F0 m pc ls st) :=
  bf_loop (P := fun i => ∀ (H : Heap) (locs : List Loc) (ls : Array Slot), I i H locs ls → W p l e R s m args below meth c H locs (fc i) (fs i) Q (F0 m pc ls st)) hx hs i hi H locs ls h0
end BFC
end
section
/-! THE STATIC TABLES: the digits of pi, and where the premises say them -/
set_option maxRecDepth 100000
def bf_PIl : List Int32 := [608135816, -2052912941, 320440878, 57701188, -1542899678, 698298832, 137296536, -330404727, 1160258022, 953160567, -1101764913, 887688300, -1062458953, -914599715, 1065670069, -1253635817, -1843997223, -1988494565, -785314906, -1730169428, 805139163, -803545161, -1193168915, 1780907670, -1166241723, -248741991, 614570311, -1282315017, 134345442, -2054226922, 1667834072, 1901547113, -1537671517, -191677058, 227898511, 1921955416, 1904987480, -2112533778, 2069144605, -1034266187, -1674521287, 720527379, -976113629, 677414384, -901678824, -1193592593, -1904616272, 1614419982, 1822297739, -1340175810, -686458943, -1120842969, 2024746970, 1432378464, -430627341, -1437226092, 1464375394, 1676153920, 1439316330, 715854006, -1261675468, 289532110, -1588296017, 2087905683, -1276242927, 1668267050, 732546397, 1947742710, -832815594, -1685613794, -1344882125, 1814351708, 2050118529, 680887927, 999245976, 1800124847, -994056165, 1713906067, 1641548236, -81679983, 1216130144, 1575780402, -276538019, -377129551, -601480446, -345695352, 596196993, -745100091, 258830323, -2081144263, 772490370, -1534844924, 1774776394, -1642095778, 566650946, -152474470, 1728879713, -1412200208, 1783734482, -665571480, -1777359064, -1420741725, 1861159788, 326777828, -1170476976, 2130389656, -1578015459, 967770486, 1724537150, -2109534584, -1930525159, 1164943284, 2105845187, 998989502, -529566248, -2050940813, 1075463327, 1455516326, 1322494562, 910128902, 469688178, 1117454909, 936433444, -804646328, -619713837, 1240580251, 122909385, -2137449605, 634681816, -152510729, -469872614, -1233564613, -1754472259, 79693498, -1045868618, 1084186820, 1583128258, 426386531, 1761308591, 1047286709, 322548459, 995290223, 1845252383, -1691314900, -863943356, -1352745719, -1092366332, -567063811, 1712269319, 422464435, -1060394921, 1170764815, -771006663, -1177289765, 1434042557, 442511882, -694091578, 1076654713, 1738483198, -81812532, -1901729288, -617471240, 1014306527, -43947243, 793779912, -1392160085, 842905082, -48003232, 1395751752, 1040244610, -1638115397, -898659168, 445077038, -552113701, -717051658, 679411651, -1402522938, -1940957837, 1767581616, -1144366904, -503340195, -1192226400, 284835224, -48135240, 1258075500, 768725851, -1705778055, -1225243291, -762426948, 1274779536, -505548070, -1530167757, 1660621633, -823867672, -283063590, 913787905, -797008130, 737222580, -1780753843, -1366257256, -357724559, 1804850592, -795946544, -1345903136, -1908647121, -1904896841, -1879645445, -233690268, -2004305902, -1878134756, 1336762016, 1754252060, -774901359, -1280786003, 791618072, -1106372745, -361419266, -1962795103, -442446833, -1250986776, 413987798, -829824359, -1264037920, -49028937, 2093235073, -760370983, 375366246, -2137688315, -1815317740, 555357303, -424861595, 2008414854, -950779147, -73583153, -338841844, 2067696032, -700376109, -1373733303, 2428461, 544322398, 577241275, 1471733935, 610547355, -267798242, 1432588573, 1507829418, 2025931657, -648391809, 545086370, 48609733, -2094660746, 1653985193, 298326376, 1316178497, -1287180854, 2064951626, 458293330, -1705826027, -703637697, -1130641692, 727753846, -2115603456, 146436021, 1461446943, -224990101, 705550613, -1235000031, -407242314, -13368018, -981117340, 1404054877, -1449160799, 146425753, 1854211946, 1266315497, -1246549692, -613086930, -1004984797, -1385257296, 1235738493, -1662099272, -1880247706, -324367247, 1771706367, 1449415276, -1028546847, 422970021, 1963543593, -1604775104, -468174274, 1062508698, 1531092325, 1804592342, -1711849514, -1580033017, -269995787, 1294809318, -265986623, 1289560198, -2072974554, 1669523910, 35572830, 157838143, 1052438473, 1016535060, 1802137761, 1753167236, 1386275462, -1214491899, -1437595849, 1040679964, 2145300060, -1904392980, 1461121720, -1338320329, -263189491, -266592508, 33600511, -1374882534, 1018524850, 629373528, -603381315, -779021319, 2091462646, -1808644237, 586499841, 988145025, 935516892, -927631820, -1695294041, -1455136442, 265290510, -322386114, -1535828415, -499593831, 1005194799, 847297441, 406762289, 1314163512, 1332590856, 1866599683, -167115585, 750260880, 613907577, 1450815602, -1129346641, -560302305, -644675568, -1282691566, -590397650, 1427272223, 778793252, 1343938022, -1618686585, 2052605720, 1946737175, -1130390852, -380928628, -327488454, -612033030, 1661551462, -1000029230, -283371449, 840292616, -582796489, 616741398, 312560963, 711312465, 1351876610, 322626781, 1910503582, 271666773, -2119403562, 1594956187, 70604529, -677132437, 1007753275, 1495573769, -225450259, -1745748998, -1631928532, 504708206, -2031925904, -353800271, -2045878774, 1514023603, 1998579484, 1312622330, 694541497, -1712906993, -2143385130, 1382467621, 776784248, -1676627094, -971698502, -1797068168, -1510196141, 503983604, -218673497, 907881277, 423175695, 432175456, 1378068232, -149744970, -340918674, -356311194, -474200683, -1501837181, -1317062703, 26017576, -1020076561, -1100195163, 1700274565, 1756076034, -288447217, -617638597, 720338349, 1533947780, 354530856, 688349552, -321042571, 1637815568, 332179504, -345916010, 53804574, -1442618417, -1250730864, 1282449977, -711025141, -877994476, -288586052, 1617046695, -1666491221, -1292663698, 1686838959, 431878346, -1608291911, 1700445008, 1080580658, 1009431731, 832498133, -1071531785, -1688990951, -2023776103, -1778935426, 1648197032, -130578278, -1746719369, 300782431, 375919233, 238389289, -941219882, -1763778655, 2019080857, 1475708069, 455242339, -1685863425, 448939670, -843904277, 1395535956, -1881585436, 1841049896, 1491858159, 885456874, -30872223, -293847949, 1565136089, -396052509, 1108368660, 540939232, 1173283510, -1549095958, -613658859, -87339056, -951913406, -278217803, 1699691293, 1103962373, -669091426, -2038084153, -464828566, 1031889488, -815619598, 1535977030, -58162272, -1043876189, 2132092099, 1774941330, 1199868427, 1452454533, 157007616, -1390851939, 342012276, 595725824, 1480756522, 206960106, 497939518, 591360097, 863170706, -1919713727, -698356495, 1814182875, 2094937945, -873565088, 1082520231, -831049106, -1509457788, 435703966, -386934699, 1641649973, -1452693590, -989067582, 1510255612, -2146710820, -1639679442, -1018874748, -36346107, 236887753, -613164077, 274041037, 1734335097, -479771840, -976997275, 1899903192, 1026095262, -244449504, 356393447, -1884275382, -421290197, -612127241, -381855128, -1803468553, -162781668, -1805047500, 1091903735, 1979897079, -1124832466, -727580568, -737663887, 857797738, 1136121015, 1342202287, 507115054, -1759230650, 337727348, -1081374656, 1301675037, -1766485585, 1895095763, 1721773893, -1078195732, 62756741, 2142006736, 835421444, -1762973773, 1442658625, -635090970, -1412822374, 676362277, 1392781812, 170690266, -373920261, 1759253602, -683120384, 1745797284, 664899054, 1329594018, -393761396, -1249058810, 2062866102, -1429332356, -751345684, -830954599, 1080764994, 553557557, -638351943, -298199125, 991055499, 499776247, 1265440854, 648242737, -354183246, 980351604, -581221582, 1749149687, -898096901, -83167922, -654396521, 1161844396, -1169648345, 1431517754, 545492359, -26498633, -795437749, 1437099964, -1592419752, -861329053, -1713251533, -1507177898, 1060185593, 1593081372, -1876348548, -34019326, 69676912, -2135222948, 86519011, -1782508216, -456757982, 1220612927, -955283748, 133810670, 1090789135, 1078426020, 1569222167, 845107691, -711212847, -222510705, 1091646820, 628848692, 1613405280, -537335645, 526609435, 236106946, 48312990, -1352249391, -892239595, 1797494240, 859738849, 992217954, -289490654, -2051890674, -424014439, -562951028, 765654824, -804095931, -1783130883, 1685915746, -405998096, 1414112111, -2021832454, -1013056217, -214004450, 172450625, -1724973196, 980381355, -185008841, -1475158944, -1578377736, -1726226100, -613520627, -964995824, 1835478071, 660984891, -590288892, -248967737, -872349789, -1254551662, 1762651403, 1719377915, -824476260, -1601057013, -652910941, -1156370552, 1364962596, 2073328063, 1983633131, 926494387, -871278215, -2144935273, -198299347, 1749200295, -966120645, 309677260, 2016342300, 1779581495, -1215147545, 111262694, 1274766160, 443224088, 298511866, 1025883608, -488520759, 1145181785, 168956806, -653464466, -710153686, 1689216846, -628709281, -1094719096, 1692713982, -1648590761, -252198778, 1618508792, 1610833997, -771914938, -164094032, 2001055236, -684262196, -2092799181, -266425487, -1333771897, 1006657119, 2006996926, -1108824540, 1430667929, -1084739999, 1314452623, -220332638, -193663176, -2021016126, 1399257539, -927756684, -1267338667, 1190975929, 2062231137, -1960976508, -2073424263, -1856006686, 1181637006, 548689776, -1932175983, -922558900, -1190417183, -1149106736, 296247880, 1970579870, -1216407114, -525738999, 1714227617, -1003338189, -396747006, 166772364, 1251581989, 493813264, 448347421, 195405023, -1584991729, 677966185, -591930749, 1463355134, -1578971493, 1338867538, 1343315457, -1492745222, -1610435132, 233230375, -1694987225, 2000651841, -1017099258, 1638401717, -266896856, -1057650976, 6314154, 819756386, 300326615, 590932579, 1405279636, -1027467724, -1144263082, -1866680610, -335774303, -833020554, 1862657033, 1266418056, 963775037, 2089974820, -2031914401, 1917689273, 448879540, -744572676, -313240200, 150775221, -667058989, 1303187396, 508620638, -1318983944, -1568336679, 1817252668, 1876281319, 1457606340, 908771278, -574175177, -677760460, -1838972398, 1729034894, 1080033504, 976866871, -738527793, -1413318857, 1522871579, 1555064734, 1336096578, -746444992, -1715692610, -720269667, -1089506539, -701686658, -956251013, -1215554709, 564236357, -1301368386, 1781952180, 1464380207, -1131123079, -962365742, 1699332808, 1393555694, 1183702653, -713881059, 1288719814, 691649499, -1447410096, -1399511320, -1101077756, -1577396752, 1781354906, 1676643554, -1702433246, -1064713544, 1126444790, -1524759638, -1661808476, -2084544070, -1679201715, -1880812208, -1167828010, 673620729, -1489356063, 1269405062, -279616791, -953159725, -145557542, 1057255273, 2012875353, -2132498155, -2018474495, -1693849939, 993977747, -376373926, -1640704105, 753973209, 36408145, -1764381638, 25011837, -774947114, 2088578344, 530523599, -1376601957, 1524020338, 1518925132, -534139791, -535190042, 1202760957, -309069157, -388774771, 674977740, -120232407, 2031300136, 2019492241, -311074731, -141160892, -472686964, 352677332, -1997247046, 60907813, 90501309, -1007968747, 1016092578, -1759044884, -1455814870, 457141659, 509813237, -174299397, 652014361, 1966332200, -1319764491, 55981186, -1967506245, 676427537, -1039476232, -1412673177, -861040033, 1307055953, 942726286, 933058658, -1826555503, -361066302, -79791154, 1361170020, 2001714738, -1464409218, -1020707514, 1222529897, 1679025792, -1565652976, -580013532, 1770335741, 151462246, -1281735158, 1682292957, 1483529935, 471910574, 1539241949, 458788160, -858652289, 1807016891, -576558466, 978976581, 1043663428, -1129001515, 1927990952, -94075717, -1922690386, -1086558393, -761535389, 1412390302, -1362987237, -162634896, 1947078029, -413461673, -126740879, -1353482915, 1077988104, 1320477388, 886195818, 18198404, -508558296, -1785185763, 112762804, -831610808, 1866414978, 891333506, 18488651, 661792760, 1628790961, -409780260, -1153795797, 876946877, -1601685023, 1372485963, 791857591, -1608533303, -534984578, -1127755274, -822013501, -1578587449, 445679433, -732971622, -790962485, -720709064, 54117162, -963561881, -1913048708, -525259953, -140617289, 1140177722, -220915201, 668550556, -1080614356, 367459370, 261225585, -1684794075, -85617823, -826893077, -1029151655, 314222801, -1228863650, -486184436, 282218597, -888953790, -521376242, 379116347, 1285071038, 846784868, -1625320142, -523005217, -744475605, -1989021154, 453669953, 1268987020, -977374944, -1015663912, -550133875, -1684459730, -435458233, 266596637, -447948204, 517658769, -832407089, -851542417, 370717030, -47440635, -2070949179, -151313767, -182193321, -1506642397, -1817692879, 1456262402, -1393524382, 1517677493, 1846949527, -1999473716, -560569710, -2118563376, 1280348187, 1908823572, -423180355, 846861322, 1172426758, -1007518822, -911584259, 1655181056, -1155153950, 901632758, 1897031941, -1308360158, -1228157060, -847864789, 1393639104, 373351379, 950779232, 625454576, -1170726756, -146354570, 2007998917, 544563296, -2050228658, -1964470824, 2058025392, 1291430526, 424198748, 50039436, 29584100, -689184263, -1865090967, -1503863136, 1057563949, -1039604065, -1219600078, -831004069, 1469046755, 985887462]
def bf_PI (k : Nat) : Int32 := bf_PIl.getD k 0
abbrev bf_L : List Cond := flatC (Jvm.Cond.and given_1 narrow_1)
def bf_cv (c n : String) : Cond → Option (Int32 × Int32)
  | .eq (.elem (.static c' n' d') (.int i)) (.int v) => if c' = c ∧ n' = n ∧ d' = "[I" then some (i, v) else none
  | _ => none
theorem bf_cv_spec {c n : String} {w : Cond} {i v : Int32} (h : bf_cv c n w = some (i, v)) : w = .eq (.elem (.static c n "[I") (.int i)) (.int v) := by
  unfold bf_cv at h
  split at h
  · split at h
    · rename_i hc
      obtain ⟨rfl, rfl, rfl⟩ := hc
      cases h
      rfl
    · cases h
  · cases h
def bf_ck (c n : String) : List Cond → List Int32 → Nat → Bool
  | _, [], _ => true
  | [], _ :: _, _ => false
  | w :: r, x :: xs, j => match bf_cv c n w with
    | some (i, v) => (i == Int32.ofNat j && v == x) && bf_ck c n r xs (j + 1)
    | none => false
theorem bf_ck_spec {c n : String} : ∀ (M : List Cond) (xs : List Int32) (j : Nat), bf_ck c n M xs j = true → ∀ k, k < xs.length → (Cond.eq (.elem (.static c n "[I") (.int (Int32.ofNat (j + k)))) (.int (xs.getD k 0))) ∈ M
  | _, [], _, _, k, hk => absurd hk (Nat.not_lt_zero k)
  | [], _ :: _, _, h, _, _ => by cases h
  | w :: r, x :: xs, j, h, k, hk => by
    unfold bf_ck at h
    split at h
    · rename_i i v hw
      rw [Bool.and_eq_true, Bool.and_eq_true, beq_iff_eq, beq_iff_eq] at h
      obtain ⟨⟨rfl, rfl⟩, h2⟩ := h
      cases k with
      | zero => rw [bf_cv_spec hw]; exact List.mem_cons_self
      | succ k =>
        have := bf_ck_spec r xs (j + 1) h2 k (by simpa using hk)
        rw [show j + 1 + k = j + (k + 1) by omega] at this
        exact List.mem_cons_of_mem _ this
    · cases h
theorem bf_run_KS0 : bf_ck "BlowfishEngine" "KS0" (bf_L.drop 11) ((bf_PIl.drop 18).take 256) 0 = true := by decide +kernel
theorem bf_run_KS1 : bf_ck "BlowfishEngine" "KS1" (bf_L.drop 271) ((bf_PIl.drop 274).take 256) 0 = true := by decide +kernel
theorem bf_run_KS2 : bf_ck "BlowfishEngine" "KS2" (bf_L.drop 531) ((bf_PIl.drop 530).take 256) 0 = true := by decide +kernel
theorem bf_run_KS3 : bf_ck "BlowfishEngine" "KS3" (bf_L.drop 791) ((bf_PIl.drop 786).take 256) 0 = true := by decide +kernel
theorem bf_run_KP : bf_ck "BlowfishEngine" "KP" (bf_L.drop 1051) ((bf_PIl.drop 0).take 18) 0 = true := by decide +kernel
theorem bf_run_PI : bf_ck "BlowfishDeskModel" "PI" (bf_L.drop 1073) ((bf_PIl.drop 0).take 1042) 0 = true := by decide +kernel
end
section
/-! BlowfishEngine, the leaves: F, BytesTo32bits, Bits32ToBytes, processTable -/
/-- the engine's cells, its five arrays the parts of one table -/
abbrev wEng (h0 a0 a1 a2 a3 a4 : Nat) (cI : ClassId) (en : Int32) (wk : Value) (T : Nat → Int32) : va_W := [(h0, .inr (2, [.ref a0, .ref a1, .ref a2, .ref a3, .ref a4, .int en, wk])), (a0, .inl (cI, 256, .inl (fun k => T (18 + k)))), (a1, .inl (cI, 256, .inl (fun k => T (274 + k)))), (a2, .inl (cI, 256, .inl (fun k => T (530 + k)))), (a3, .inl (cI, 256, .inl (fun k => T (786 + k)))), (a4, .inl (cI, 18, .inl T))]
theorem bf_upd_0 {D : va_G} {h0 a0 a1 a2 a3 a4 : Nat} {cI : ClassId} {en : Int32} {wk : Value} {T : Nat → Int32} {k : Nat} {x : Int32} {wz : va_W} {H : Heap} (hk : k < 256) (h : va_P D vwCl ([(h0, .inr (2, [.ref a0, .ref a1, .ref a2, .ref a3, .ref a4, .int en, wk])), (a0, .inl (cI, 256, .inl (upd (fun k => T (18 + k)) k x))), (a1, .inl (cI, 256, .inl (fun k => T (274 + k)))), (a2, .inl (cI, 256, .inl (fun k => T (530 + k)))), (a3, .inl (cI, 256, .inl (fun k => T (786 + k)))), (a4, .inl (cI, 18, .inl T))] ++ wz) H) : va_P D vwCl (wEng h0 a0 a1 a2 a3 a4 cI en wk (upd T (18 + k) x) ++ wz) H := by
  have h := bf_P.re (ws' := [(h0, .inr (2, [.ref a0, .ref a1, .ref a2, .ref a3, .ref a4, .int en, wk])), (a0, .inl (cI, 256, .inl (fun j => upd T (18 + k) x (18 + j)))), (a1, .inl (cI, 256, .inl (fun k => T (274 + k)))), (a2, .inl (cI, 256, .inl (fun k => T (530 + k)))), (a3, .inl (cI, 256, .inl (fun k => T (786 + k)))), (a4, .inl (cI, 18, .inl T))] ++ wz) h 1 (g := (fun j => upd T (18 + k) x (18 + j))) rfl (fun j hj => by show (if j = k then x else _) = (if 18 + j = 18 + k then x else _); by_cases e : j = k <;> simp [e]) rfl
  have h := bf_P.re (ws' := [(h0, .inr (2, [.ref a0, .ref a1, .ref a2, .ref a3, .ref a4, .int en, wk])), (a0, .inl (cI, 256, .inl (fun j => upd T (18 + k) x (18 + j)))), (a1, .inl (cI, 256, .inl (fun j => upd T (18 + k) x (274 + j)))), (a2, .inl (cI, 256, .inl (fun k => T (530 + k)))), (a3, .inl (cI, 256, .inl (fun k => T (786 + k)))), (a4, .inl (cI, 18, .inl T))] ++ wz) h 2 (g := (fun j => upd T (18 + k) x (274 + j))) rfl (fun j hj => by show _ = (if 274 + j = 18 + k then x else _); rw [if_neg (by omega)]) rfl
  have h := bf_P.re (ws' := [(h0, .inr (2, [.ref a0, .ref a1, .ref a2, .ref a3, .ref a4, .int en, wk])), (a0, .inl (cI, 256, .inl (fun j => upd T (18 + k) x (18 + j)))), (a1, .inl (cI, 256, .inl (fun j => upd T (18 + k) x (274 + j)))), (a2, .inl (cI, 256, .inl (fun j => upd T (18 + k) x (530 + j)))), (a3, .inl (cI, 256, .inl (fun k => T (786 + k)))), (a4, .inl (cI, 18, .inl T))] ++ wz) h 3 (g := (fun j => upd T (18 + k) x (530 + j))) rfl (fun j hj => by show _ = (if 530 + j = 18 + k then x else _); rw [if_neg (by omega)]) rfl
  have h := bf_P.re (ws' := [(h0, .inr (2, [.ref a0, .ref a1, .ref a2, .ref a3, .ref a4, .int en, wk])), (a0, .inl (cI, 256, .inl (fun j => upd T (18 + k) x (18 + j)))), (a1, .inl (cI, 256, .inl (fun j => upd T (18 + k) x (274 + j)))), (a2, .inl (cI, 256, .inl (fun j => upd T (18 + k) x (530 + j)))), (a3, .inl (cI, 256, .inl (fun j => upd T (18 + k) x (786 + j)))), (a4, .inl (cI, 18, .inl T))] ++ wz) h 4 (g := (fun j => upd T (18 + k) x (786 + j))) rfl (fun j hj => by show _ = (if 786 + j = 18 + k then x else _); rw [if_neg (by omega)]) rfl
  have h := bf_P.re (ws' := [(h0, .inr (2, [.ref a0, .ref a1, .ref a2, .ref a3, .ref a4, .int en, wk])), (a0, .inl (cI, 256, .inl (fun j => upd T (18 + k) x (18 + j)))), (a1, .inl (cI, 256, .inl (fun j => upd T (18 + k) x (274 + j)))), (a2, .inl (cI, 256, .inl (fun j => upd T (18 + k) x (530 + j)))), (a3, .inl (cI, 256, .inl (fun j => upd T (18 + k) x (786 + j)))), (a4, .inl (cI, 18, .inl (upd T (18 + k) x)))] ++ wz) h 5 (g := (upd T (18 + k) x)) rfl (fun j hj => by show _ = (if j = 18 + k then x else _); rw [if_neg (by omega)]) rfl
  exact h
theorem bf_upd_1 {D : va_G} {h0 a0 a1 a2 a3 a4 : Nat} {cI : ClassId} {en : Int32} {wk : Value} {T : Nat → Int32} {k : Nat} {x : Int32} {wz : va_W} {H : Heap} (hk : k < 256) (h : va_P D vwCl ([(h0, .inr (2, [.ref a0, .ref a1, .ref a2, .ref a3, .ref a4, .int en, wk])), (a0, .inl (cI, 256, .inl (fun k => T (18 + k)))), (a1, .inl (cI, 256, .inl (upd (fun k => T (274 + k)) k x))), (a2, .inl (cI, 256, .inl (fun k => T (530 + k)))), (a3, .inl (cI, 256, .inl (fun k => T (786 + k)))), (a4, .inl (cI, 18, .inl T))] ++ wz) H) : va_P D vwCl (wEng h0 a0 a1 a2 a3 a4 cI en wk (upd T (274 + k) x) ++ wz) H := by
  have h := bf_P.re (ws' := [(h0, .inr (2, [.ref a0, .ref a1, .ref a2, .ref a3, .ref a4, .int en, wk])), (a0, .inl (cI, 256, .inl (fun j => upd T (274 + k) x (18 + j)))), (a1, .inl (cI, 256, .inl (upd (fun k => T (274 + k)) k x))), (a2, .inl (cI, 256, .inl (fun k => T (530 + k)))), (a3, .inl (cI, 256, .inl (fun k => T (786 + k)))), (a4, .inl (cI, 18, .inl T))] ++ wz) h 1 (g := (fun j => upd T (274 + k) x (18 + j))) rfl (fun j hj => by show _ = (if 18 + j = 274 + k then x else _); rw [if_neg (by omega)]) rfl
  have h := bf_P.re (ws' := [(h0, .inr (2, [.ref a0, .ref a1, .ref a2, .ref a3, .ref a4, .int en, wk])), (a0, .inl (cI, 256, .inl (fun j => upd T (274 + k) x (18 + j)))), (a1, .inl (cI, 256, .inl (fun j => upd T (274 + k) x (274 + j)))), (a2, .inl (cI, 256, .inl (fun k => T (530 + k)))), (a3, .inl (cI, 256, .inl (fun k => T (786 + k)))), (a4, .inl (cI, 18, .inl T))] ++ wz) h 2 (g := (fun j => upd T (274 + k) x (274 + j))) rfl (fun j hj => by show (if j = k then x else _) = (if 274 + j = 274 + k then x else _); by_cases e : j = k <;> simp [e]) rfl
  have h := bf_P.re (ws' := [(h0, .inr (2, [.ref a0, .ref a1, .ref a2, .ref a3, .ref a4, .int en, wk])), (a0, .inl (cI, 256, .inl (fun j => upd T (274 + k) x (18 + j)))), (a1, .inl (cI, 256, .inl (fun j => upd T (274 + k) x (274 + j)))), (a2, .inl (cI, 256, .inl (fun j => upd T (274 + k) x (530 + j)))), (a3, .inl (cI, 256, .inl (fun k => T (786 + k)))), (a4, .inl (cI, 18, .inl T))] ++ wz) h 3 (g := (fun j => upd T (274 + k) x (530 + j))) rfl (fun j hj => by show _ = (if 530 + j = 274 + k then x else _); rw [if_neg (by omega)]) rfl
  have h := bf_P.re (ws' := [(h0, .inr (2, [.ref a0, .ref a1, .ref a2, .ref a3, .ref a4, .int en, wk])), (a0, .inl (cI, 256, .inl (fun j => upd T (274 + k) x (18 + j)))), (a1, .inl (cI, 256, .inl (fun j => upd T (274 + k) x (274 + j)))), (a2, .inl (cI, 256, .inl (fun j => upd T (274 + k) x (530 + j)))), (a3, .inl (cI, 256, .inl (fun j => upd T (274 + k) x (786 + j)))), (a4, .inl (cI, 18, .inl T))] ++ wz) h 4 (g := (fun j => upd T (274 + k) x (786 + j))) rfl (fun j hj => by show _ = (if 786 + j = 274 + k then x else _); rw [if_neg (by omega)]) rfl
  have h := bf_P.re (ws' := [(h0, .inr (2, [.ref a0, .ref a1, .ref a2, .ref a3, .ref a4, .int en, wk])), (a0, .inl (cI, 256, .inl (fun j => upd T (274 + k) x (18 + j)))), (a1, .inl (cI, 256, .inl (fun j => upd T (274 + k) x (274 + j)))), (a2, .inl (cI, 256, .inl (fun j => upd T (274 + k) x (530 + j)))), (a3, .inl (cI, 256, .inl (fun j => upd T (274 + k) x (786 + j)))), (a4, .inl (cI, 18, .inl (upd T (274 + k) x)))] ++ wz) h 5 (g := (upd T (274 + k) x)) rfl (fun j hj => by show _ = (if j = 274 + k then x else _); rw [if_neg (by omega)]) rfl
  exact h
theorem bf_upd_2 {D : va_G} {h0 a0 a1 a2 a3 a4 : Nat} {cI : ClassId} {en : Int32} {wk : Value} {T : Nat → Int32} {k : Nat} {x : Int32} {wz : va_W} {H : Heap} (hk : k < 256) (h : va_P D vwCl ([(h0, .inr (2, [.ref a0, .ref a1, .ref a2, .ref a3, .ref a4, .int en, wk])), (a0, .inl (cI, 256, .inl (fun k => T (18 + k)))), (a1, .inl (cI, 256, .inl (fun k => T (274 + k)))), (a2, .inl (cI, 256, .inl (upd (fun k => T (530 + k)) k x))), (a3, .inl (cI, 256, .inl (fun k => T (786 + k)))), (a4, .inl (cI, 18, .inl T))] ++ wz) H) : va_P D vwCl (wEng h0 a0 a1 a2 a3 a4 cI en wk (upd T (530 + k) x) ++ wz) H := by
  have h := bf_P.re (ws' := [(h0, .inr (2, [.ref a0, .ref a1, .ref a2, .ref a3, .ref a4, .int en, wk])), (a0, .inl (cI, 256, .inl (fun j => upd T (530 + k) x (18 + j)))), (a1, .inl (cI, 256, .inl (fun k => T (274 + k)))), (a2, .inl (cI, 256, .inl (upd (fun k => T (530 + k)) k x))), (a3, .inl (cI, 256, .inl (fun k => T (786 + k)))), (a4, .inl (cI, 18, .inl T))] ++ wz) h 1 (g := (fun j => upd T (530 + k) x (18 + j))) rfl (fun j hj => by show _ = (if 18 + j = 530 + k then x else _); rw [if_neg (by omega)]) rfl
  have h := bf_P.re (ws' := [(h0, .inr (2, [.ref a0, .ref a1, .ref a2, .ref a3, .ref a4, .int en, wk])), (a0, .inl (cI, 256, .inl (fun j => upd T (530 + k) x (18 + j)))), (a1, .inl (cI, 256, .inl (fun j => upd T (530 + k) x (274 + j)))), (a2, .inl (cI, 256, .inl (upd (fun k => T (530 + k)) k x))), (a3, .inl (cI, 256, .inl (fun k => T (786 + k)))), (a4, .inl (cI, 18, .inl T))] ++ wz) h 2 (g := (fun j => upd T (530 + k) x (274 + j))) rfl (fun j hj => by show _ = (if 274 + j = 530 + k then x else _); rw [if_neg (by omega)]) rfl
  have h := bf_P.re (ws' := [(h0, .inr (2, [.ref a0, .ref a1, .ref a2, .ref a3, .ref a4, .int en, wk])), (a0, .inl (cI, 256, .inl (fun j => upd T (530 + k) x (18 + j)))), (a1, .inl (cI, 256, .inl (fun j => upd T (530 + k) x (274 + j)))), (a2, .inl (cI, 256, .inl (fun j => upd T (530 + k) x (530 + j)))), (a3, .inl (cI, 256, .inl (fun k => T (786 + k)))), (a4, .inl (cI, 18, .inl T))] ++ wz) h 3 (g := (fun j => upd T (530 + k) x (530 + j))) rfl (fun j hj => by show (if j = k then x else _) = (if 530 + j = 530 + k then x else _); by_cases e : j = k <;> simp [e]) rfl
  have h := bf_P.re (ws' := [(h0, .inr (2, [.ref a0, .ref a1, .ref a2, .ref a3, .ref a4, .int en, wk])), (a0, .inl (cI, 256, .inl (fun j => upd T (530 + k) x (18 + j)))), (a1, .inl (cI, 256, .inl (fun j => upd T (530 + k) x (274 + j)))), (a2, .inl (cI, 256, .inl (fun j => upd T (530 + k) x (530 + j)))), (a3, .inl (cI, 256, .inl (fun j => upd T (530 + k) x (786 + j)))), (a4, .inl (cI, 18, .inl T))] ++ wz) h 4 (g := (fun j => upd T (530 + k) x (786 + j))) rfl (fun j hj => by show _ = (if 786 + j = 530 + k then x else _); rw [if_neg (by omega)]) rfl
  have h := bf_P.re (ws' := [(h0, .inr (2, [.ref a0, .ref a1, .ref a2, .ref a3, .ref a4, .int en, wk])), (a0, .inl (cI, 256, .inl (fun j => upd T (530 + k) x (18 + j)))), (a1, .inl (cI, 256, .inl (fun j => upd T (530 + k) x (274 + j)))), (a2, .inl (cI, 256, .inl (fun j => upd T (530 + k) x (530 + j)))), (a3, .inl (cI, 256, .inl (fun j => upd T (530 + k) x (786 + j)))), (a4, .inl (cI, 18, .inl (upd T (530 + k) x)))] ++ wz) h 5 (g := (upd T (530 + k) x)) rfl (fun j hj => by show _ = (if j = 530 + k then x else _); rw [if_neg (by omega)]) rfl
  exact h
theorem bf_upd_3 {D : va_G} {h0 a0 a1 a2 a3 a4 : Nat} {cI : ClassId} {en : Int32} {wk : Value} {T : Nat → Int32} {k : Nat} {x : Int32} {wz : va_W} {H : Heap} (hk : k < 256) (h : va_P D vwCl ([(h0, .inr (2, [.ref a0, .ref a1, .ref a2, .ref a3, .ref a4, .int en, wk])), (a0, .inl (cI, 256, .inl (fun k => T (18 + k)))), (a1, .inl (cI, 256, .inl (fun k => T (274 + k)))), (a2, .inl (cI, 256, .inl (fun k => T (530 + k)))), (a3, .inl (cI, 256, .inl (upd (fun k => T (786 + k)) k x))), (a4, .inl (cI, 18, .inl T))] ++ wz) H) : va_P D vwCl (wEng h0 a0 a1 a2 a3 a4 cI en wk (upd T (786 + k) x) ++ wz) H := by
  have h := bf_P.re (ws' := [(h0, .inr (2, [.ref a0, .ref a1, .ref a2, .ref a3, .ref a4, .int en, wk])), (a0, .inl (cI, 256, .inl (fun j => upd T (786 + k) x (18 + j)))), (a1, .inl (cI, 256, .inl (fun k => T (274 + k)))), (a2, .inl (cI, 256, .inl (fun k => T (530 + k)))), (a3, .inl (cI, 256, .inl (upd (fun k => T (786 + k)) k x))), (a4, .inl (cI, 18, .inl T))] ++ wz) h 1 (g := (fun j => upd T (786 + k) x (18 + j))) rfl (fun j hj => by show _ = (if 18 + j = 786 + k then x else _); rw [if_neg (by omega)]) rfl
  have h := bf_P.re (ws' := [(h0, .inr (2, [.ref a0, .ref a1, .ref a2, .ref a3, .ref a4, .int en, wk])), (a0, .inl (cI, 256, .inl (fun j => upd T (786 + k) x (18 + j)))), (a1, .inl (cI, 256, .inl (fun j => upd T (786 + k) x (274 + j)))), (a2, .inl (cI, 256, .inl (fun k => T (530 + k)))), (a3, .inl (cI, 256, .inl (upd (fun k => T (786 + k)) k x))), (a4, .inl (cI, 18, .inl T))] ++ wz) h 2 (g := (fun j => upd T (786 + k) x (274 + j))) rfl (fun j hj => by show _ = (if 274 + j = 786 + k then x else _); rw [if_neg (by omega)]) rfl
  have h := bf_P.re (ws' := [(h0, .inr (2, [.ref a0, .ref a1, .ref a2, .ref a3, .ref a4, .int en, wk])), (a0, .inl (cI, 256, .inl (fun j => upd T (786 + k) x (18 + j)))), (a1, .inl (cI, 256, .inl (fun j => upd T (786 + k) x (274 + j)))), (a2, .inl (cI, 256, .inl (fun j => upd T (786 + k) x (530 + j)))), (a3, .inl (cI, 256, .inl (upd (fun k => T (786 + k)) k x))), (a4, .inl (cI, 18, .inl T))] ++ wz) h 3 (g := (fun j => upd T (786 + k) x (530 + j))) rfl (fun j hj => by show _ = (if 530 + j = 786 + k then x else _); rw [if_neg (by omega)]) rfl
  have h := bf_P.re (ws' := [(h0, .inr (2, [.ref a0, .ref a1, .ref a2, .ref a3, .ref a4, .int en, wk])), (a0, .inl (cI, 256, .inl (fun j => upd T (786 + k) x (18 + j)))), (a1, .inl (cI, 256, .inl (fun j => upd T (786 + k) x (274 + j)))), (a2, .inl (cI, 256, .inl (fun j => upd T (786 + k) x (530 + j)))), (a3, .inl (cI, 256, .inl (fun j => upd T (786 + k) x (786 + j)))), (a4, .inl (cI, 18, .inl T))] ++ wz) h 4 (g := (fun j => upd T (786 + k) x (786 + j))) rfl (fun j hj => by show (if j = k then x else _) = (if 786 + j = 786 + k then x else _); by_cases e : j = k <;> simp [e]) rfl
  have h := bf_P.re (ws' := [(h0, .inr (2, [.ref a0, .ref a1, .ref a2, .ref a3, .ref a4, .int en, wk])), (a0, .inl (cI, 256, .inl (fun j => upd T (786 + k) x (18 + j)))), (a1, .inl (cI, 256, .inl (fun j => upd T (786 + k) x (274 + j)))), (a2, .inl (cI, 256, .inl (fun j => upd T (786 + k) x (530 + j)))), (a3, .inl (cI, 256, .inl (fun j => upd T (786 + k) x (786 + j)))), (a4, .inl (cI, 18, .inl (upd T (786 + k) x)))] ++ wz) h 5 (g := (upd T (786 + k) x)) rfl (fun j hj => by show _ = (if j = 786 + k then x else _); rw [if_neg (by omega)]) rfl
  exact h
theorem bf_upd_4 {D : va_G} {h0 a0 a1 a2 a3 a4 : Nat} {cI : ClassId} {en : Int32} {wk : Value} {T : Nat → Int32} {k : Nat} {x : Int32} {wz : va_W} {H : Heap} (hk : k < 18) (h : va_P D vwCl ([(h0, .inr (2, [.ref a0, .ref a1, .ref a2, .ref a3, .ref a4, .int en, wk])), (a0, .inl (cI, 256, .inl (fun k => T (18 + k)))), (a1, .inl (cI, 256, .inl (fun k => T (274 + k)))), (a2, .inl (cI, 256, .inl (fun k => T (530 + k)))), (a3, .inl (cI, 256, .inl (fun k => T (786 + k)))), (a4, .inl (cI, 18, .inl (upd T k x)))] ++ wz) H) : va_P D vwCl (wEng h0 a0 a1 a2 a3 a4 cI en wk (upd T (k) x) ++ wz) H := by
  have h := bf_P.re (ws' := [(h0, .inr (2, [.ref a0, .ref a1, .ref a2, .ref a3, .ref a4, .int en, wk])), (a0, .inl (cI, 256, .inl (fun j => upd T (k) x (18 + j)))), (a1, .inl (cI, 256, .inl (fun k => T (274 + k)))), (a2, .inl (cI, 256, .inl (fun k => T (530 + k)))), (a3, .inl (cI, 256, .inl (fun k => T (786 + k)))), (a4, .inl (cI, 18, .inl (upd T k x)))] ++ wz) h 1 (g := (fun j => upd T (k) x (18 + j))) rfl (fun j hj => by show _ = (if 18 + j = k then x else _); rw [if_neg (by omega)]) rfl
  have h := bf_P.re (ws' := [(h0, .inr (2, [.ref a0, .ref a1, .ref a2, .ref a3, .ref a4, .int en, wk])), (a0, .inl (cI, 256, .inl (fun j => upd T (k) x (18 + j)))), (a1, .inl (cI, 256, .inl (fun j => upd T (k) x (274 + j)))), (a2, .inl (cI, 256, .inl (fun k => T (530 + k)))), (a3, .inl (cI, 256, .inl (fun k => T (786 + k)))), (a4, .inl (cI, 18, .inl (upd T k x)))] ++ wz) h 2 (g := (fun j => upd T (k) x (274 + j))) rfl (fun j hj => by show _ = (if 274 + j = k then x else _); rw [if_neg (by omega)]) rfl
  have h := bf_P.re (ws' := [(h0, .inr (2, [.ref a0, .ref a1, .ref a2, .ref a3, .ref a4, .int en, wk])), (a0, .inl (cI, 256, .inl (fun j => upd T (k) x (18 + j)))), (a1, .inl (cI, 256, .inl (fun j => upd T (k) x (274 + j)))), (a2, .inl (cI, 256, .inl (fun j => upd T (k) x (530 + j)))), (a3, .inl (cI, 256, .inl (fun k => T (786 + k)))), (a4, .inl (cI, 18, .inl (upd T k x)))] ++ wz) h 3 (g := (fun j => upd T (k) x (530 + j))) rfl (fun j hj => by show _ = (if 530 + j = k then x else _); rw [if_neg (by omega)]) rfl
  have h := bf_P.re (ws' := [(h0, .inr (2, [.ref a0, .ref a1, .ref a2, .ref a3, .ref a4, .int en, wk])), (a0, .inl (cI, 256, .inl (fun j => upd T (k) x (18 + j)))), (a1, .inl (cI, 256, .inl (fun j => upd T (k) x (274 + j)))), (a2, .inl (cI, 256, .inl (fun j => upd T (k) x (530 + j)))), (a3, .inl (cI, 256, .inl (fun j => upd T (k) x (786 + j)))), (a4, .inl (cI, 18, .inl (upd T k x)))] ++ wz) h 4 (g := (fun j => upd T (k) x (786 + j))) rfl (fun j hj => by show _ = (if 786 + j = k then x else _); rw [if_neg (by omega)]) rfl
  have h := bf_P.re (ws' := [(h0, .inr (2, [.ref a0, .ref a1, .ref a2, .ref a3, .ref a4, .int en, wk])), (a0, .inl (cI, 256, .inl (fun j => upd T (k) x (18 + j)))), (a1, .inl (cI, 256, .inl (fun j => upd T (k) x (274 + j)))), (a2, .inl (cI, 256, .inl (fun j => upd T (k) x (530 + j)))), (a3, .inl (cI, 256, .inl (fun j => upd T (k) x (786 + j)))), (a4, .inl (cI, 18, .inl (upd T (k) x)))] ++ wz) h 5 (g := (upd T (k) x)) rfl (fun j hj => rfl) rfl
  exact h
set_option maxHeartbeats 4000000 in
set_option maxRecDepth 100000 in
/-- F(x): the mixing function; it reads the four boxes -/
theorem met_X2_F (l : Launch) (dC : Nat → ClassId) (dI : Nat → Nat → Nat) (cB cI : ClassId) (h0 a0 a1 a2 a3 a4 : Nat) (en : Int32) (wk : Value) (T : Nat → Int32) (x : Int32) : Met l yX2_F (ws_ yX2_F cX2_F 2 (some .int)) ({ frames := 0, cells := 0, slots := 0, locals := 0 }) (va_Pc [.ref h0, .int x] (bfRd (dC, dI) cB cI [(h0, .inr (2, [.ref a0, .ref a1, .ref a2, .ref a3, .ref a4, .int en, wk])), (a0, .inl (cI, 256, .inl (fun k => T (18 + k)))), (a1, .inl (cI, 256, .inl (fun k => T (274 + k)))), (a2, .inl (cI, 256, .inl (fun k => T (530 + k)))), (a3, .inl (cI, 256, .inl (fun k => T (786 + k))))])) (vp_Si (fun r => r = bf_F T x)) 0 0 (fun _ => False) := by
  refine Met.ofW (cc := cX2_F) (maxL := 2) (ret := (some .int)) (by decide) rfl ?_
  intro p e s m args below meth c s₁ hBo hml hv
  obtain ⟨rfl, hP, hK⟩ := hv
  have hx := hBo.exec
  have hb := hBo.bytes
  have hr := hBo.returns
  have hts := atoms_spec (ws := (ws_ yX2_F cX2_F 2 (some .int))) hBo.pre
  have hts : ∀ w ∈ lw_all, w.before _ s = true := fun w h => hts w (List.mem_cons_of_mem _ h)
  have hown : s.vm.findClass RX2 = some m.cls := findClass_of_methodNamed hBo.named
  have hlocks := hBo.notSynchronized
  have hl := lv_entry ([.ref h0, .int x]) (n := 2) (Nat.le_of_ble_eq_true rfl)
  rw [lg_entry_eq]
  generalize (lg_sl ([.ref h0, .int x]) ++ List.replicate (2 - (lg_sl ([.ref h0, .int x])).length) Slot.unset).toArray = ls at hl ⊢
  have hl : lv_has ls 2 [(0, .ref h0), (1, .int x)] := hl
  refine lv_aload_n hx hb dX2_F_0 rfl (lv_at hl 0 rfl) ?_
  refine va_get (D := (dC, dI)) (ci := 2) (v := .ref a0) (C := RX2) (T := TX2) (N := 7) hx hb hts in_X2 hown hK hP 0 rfl rfl 0 (by decide) (hts _ q74) (fun _ h9 => h9) rfl dX2_F_1 ?_
  refine lv_iload_n hx hb dX2_F_4 rfl (lv_at hl 1 rfl) ?_
  refine lv_bipush (v := 24) hx hb dX2_F_5 (by decide) ?_
  refine lv_iushr (v := nI (bf_b3 x)) hx hb dX2_F_7 (bf_u24 x) ?_
  refine bf_iald hx hb hK hP 1 1 rfl rfl dX2_F_8 (bf_b3 x) rfl (bf_b3_lt x) (Nat.le_of_ble_eq_true rfl) ?_
  refine lv_aload_n hx hb dX2_F_9 rfl (lv_at hl 0 rfl) ?_
  refine va_get (D := (dC, dI)) (ci := 2) (v := .ref a1) (C := RX2) (T := TX2) (N := 7) hx hb hts in_X2 hown hK hP 0 rfl rfl 1 (by decide) (hts _ q75) (fun _ h9 => h9) rfl dX2_F_10 ?_
  refine lv_iload_n hx hb dX2_F_13 rfl (lv_at hl 1 rfl) ?_
  refine lv_bipush (v := 16) hx hb dX2_F_14 (by decide) ?_
  refine lv_iushr (v := nI (x.toBitVec.toNat / 2 ^ 16)) hx hb dX2_F_16 (bf_u16 x) ?_
  refine lv_sipush (v := 255) hx hb dX2_F_17 (by decide) ?_
  refine lv_iand hx hb dX2_F_20 ?_
  refine bf_topE (y := nI (bf_b2 x)) (bf_a2 x) ?_
  refine bf_iald hx hb hK hP 2 1 rfl rfl dX2_F_21 (bf_b2 x) rfl (bf_b2_lt x) (Nat.le_of_ble_eq_true rfl) ?_
  refine lv_iadd hx hb dX2_F_22 ?_
  refine lv_aload_n hx hb dX2_F_23 rfl (lv_at hl 0 rfl) ?_
  refine va_get (D := (dC, dI)) (ci := 2) (v := .ref a2) (C := RX2) (T := TX2) (N := 7) hx hb hts in_X2 hown hK hP 0 rfl rfl 2 (by decide) (hts _ q76) (fun _ h9 => h9) rfl dX2_F_24 ?_
  refine lv_iload_n hx hb dX2_F_27 rfl (lv_at hl 1 rfl) ?_
  refine lv_bipush (v := 8) hx hb dX2_F_28 (by decide) ?_
  refine lv_iushr (v := nI (x.toBitVec.toNat / 2 ^ 8)) hx hb dX2_F_30 (bf_u8 x) ?_
  refine lv_sipush (v := 255) hx hb dX2_F_31 (by decide) ?_
  refine lv_iand hx hb dX2_F_34 ?_
  refine bf_topE (y := nI (bf_b1 x)) (bf_a1 x) ?_
  refine bf_iald hx hb hK hP 3 1 rfl rfl dX2_F_35 (bf_b1 x) rfl (bf_b1_lt x) (Nat.le_of_ble_eq_true rfl) ?_
  refine lv_ixor hx hb dX2_F_36 ?_
  refine lv_aload_n hx hb dX2_F_37 rfl (lv_at hl 0 rfl) ?_
  refine va_get (D := (dC, dI)) (ci := 2) (v := .ref a3) (C := RX2) (T := TX2) (N := 7) hx hb hts in_X2 hown hK hP 0 rfl rfl 3 (by decide) (hts _ q77) (fun _ h9 => h9) rfl dX2_F_38 ?_
  refine lv_iload_n hx hb dX2_F_41 rfl (lv_at hl 1 rfl) ?_
  refine lv_sipush (v := 255) hx hb dX2_F_42 (by decide) ?_
  refine lv_iand hx hb dX2_F_45 ?_
  refine bf_topE (y := nI (bf_b0 x)) (bf_a0 x) ?_
  refine bf_iald hx hb hK hP 4 1 rfl rfl dX2_F_46 (bf_b0 x) rfl (bf_b0_lt x) (Nat.le_of_ble_eq_true rfl) ?_
  refine lv_iadd hx hb dX2_F_47 ?_
  exact W.iret (v := (((((fun k => T (18 + k)) (bf_b3 x)) + ((fun k => T (274 + k)) (bf_b2 x))) ^^^ ((fun k => T (530 + k)) (bf_b1 x))) + ((fun k => T (786 + k)) (bf_b0 x)))) hx hb hr (fun t ht hW => ⟨_, rfl, rfl, by rw [ht]⟩) (fun q h => by cases h) dX2_F_48
set_option maxHeartbeats 4000000 in
set_option maxRecDepth 100000 in
/-- BytesTo32bits(b, k): four bytes as a word -/
theorem met_X2_BytesTo32bits (l : Launch) (dC : Nat → ClassId) (dI : Nat → Nat → Nat) (cB cI : ClassId) (h0 ba n k : Nat) (f : Nat → Int32) (hk : k + 4 ≤ n) (hn : n < 2 ^ 31) : Met l yX2_BytesTo32bits (ws_ yX2_BytesTo32bits cX2_BytesTo32bits 3 (some .int)) ({ frames := 0, cells := 0, slots := 0, locals := 0 }) (va_Pc [.ref h0, .ref ba, .int (nI k)] (bfRd (dC, dI) cB cI [(ba, .inl (cB, n, .inl f))])) (vp_Si (fun r => r = bf_wd f k 4)) 0 0 (fun _ => False) := by
  refine Met.ofW (cc := cX2_BytesTo32bits) (maxL := 3) (ret := (some .int)) (by decide) rfl ?_
  intro p e s m args below meth c s₁ hBo hml hv
  obtain ⟨rfl, hP, hK⟩ := hv
  have hx := hBo.exec
  have hb := hBo.bytes
  have hr := hBo.returns
  have hts := atoms_spec (ws := (ws_ yX2_BytesTo32bits cX2_BytesTo32bits 3 (some .int))) hBo.pre
  have hts : ∀ w ∈ lw_all, w.before _ s = true := fun w h => hts w (List.mem_cons_of_mem _ h)
  have hown : s.vm.findClass RX2 = some m.cls := findClass_of_methodNamed hBo.named
  have hlocks := hBo.notSynchronized
  have hl := lv_entry ([.ref h0, .ref ba, .int (nI k)]) (n := 3) (Nat.le_of_ble_eq_true rfl)
  rw [lg_entry_eq]
  generalize (lg_sl ([.ref h0, .ref ba, .int (nI k)]) ++ List.replicate (3 - (lg_sl ([.ref h0, .ref ba, .int (nI k)])).length) Slot.unset).toArray = ls at hl ⊢
  have hl : lv_has ls 3 [(0, .ref h0), (1, .ref ba), (2, .int (nI k))] := hl
  refine lv_aload_n hx hb dX2_BytesTo32bits_0 rfl (lv_at hl 1 rfl) ?_
  refine lv_iload_n hx hb dX2_BytesTo32bits_1 rfl (lv_at hl 2 rfl) ?_
  refine bf_bald hx hb hK hP 0 0 rfl rfl dX2_BytesTo32bits_2 k rfl (by omega) hn ?_
  refine lv_sipush (v := 255) hx hb dX2_BytesTo32bits_3 (by decide) ?_
  refine lv_iand hx hb dX2_BytesTo32bits_6 ?_
  refine lv_bipush (v := 24) hx hb dX2_BytesTo32bits_7 (by decide) ?_
  refine lv_ishl hx hb dX2_BytesTo32bits_9 ?_
  refine lv_aload_n hx hb dX2_BytesTo32bits_10 rfl (lv_at hl 1 rfl) ?_
  refine lv_iload_n hx hb dX2_BytesTo32bits_11 rfl (lv_at hl 2 rfl) ?_
  refine lv_iconst (v := 1) hx hb dX2_BytesTo32bits_12 (by decide) ?_
  refine lv_iadd hx hb dX2_BytesTo32bits_13 ?_
  refine bf_bald hx hb hK hP 0 0 rfl rfl dX2_BytesTo32bits_14 (k + 1) (nI_add k 1) (by omega) hn ?_
  refine lv_sipush (v := 255) hx hb dX2_BytesTo32bits_15 (by decide) ?_
  refine lv_iand hx hb dX2_BytesTo32bits_18 ?_
  refine lv_bipush (v := 16) hx hb dX2_BytesTo32bits_19 (by decide) ?_
  refine lv_ishl hx hb dX2_BytesTo32bits_21 ?_
  refine lv_ior hx hb dX2_BytesTo32bits_22 ?_
  refine lv_aload_n hx hb dX2_BytesTo32bits_23 rfl (lv_at hl 1 rfl) ?_
  refine lv_iload_n hx hb dX2_BytesTo32bits_24 rfl (lv_at hl 2 rfl) ?_
  refine lv_iconst (v := 2) hx hb dX2_BytesTo32bits_25 (by decide) ?_
  refine lv_iadd hx hb dX2_BytesTo32bits_26 ?_
  refine bf_bald hx hb hK hP 0 0 rfl rfl dX2_BytesTo32bits_27 (k + 2) (nI_add k 2) (by omega) hn ?_
  refine lv_sipush (v := 255) hx hb dX2_BytesTo32bits_28 (by decide) ?_
  refine lv_iand hx hb dX2_BytesTo32bits_31 ?_
  refine lv_bipush (v := 8) hx hb dX2_BytesTo32bits_32 (by decide) ?_
  refine lv_ishl hx hb dX2_BytesTo32bits_34 ?_
  refine lv_ior hx hb dX2_BytesTo32bits_35 ?_
  refine lv_aload_n hx hb dX2_BytesTo32bits_36 rfl (lv_at hl 1 rfl) ?_
  refine lv_iload_n hx hb dX2_BytesTo32bits_37 rfl (lv_at hl 2 rfl) ?_
  refine lv_iconst (v := 3) hx hb dX2_BytesTo32bits_38 (by decide) ?_
  refine lv_iadd hx hb dX2_BytesTo32bits_39 ?_
  refine bf_bald hx hb hK hP 0 0 rfl rfl dX2_BytesTo32bits_40 (k + 3) (nI_add k 3) (by omega) hn ?_
  refine lv_sipush (v := 255) hx hb dX2_BytesTo32bits_41 (by decide) ?_
  refine lv_iand hx hb dX2_BytesTo32bits_44 ?_
  refine lv_ior hx hb dX2_BytesTo32bits_45 ?_
  exact W.iret (v := ((((((f k) &&& 255) <<< (24 &&& 31)) ||| (((f (k + 1)) &&& 255) <<< (16 &&& 31))) ||| (((f (k + 2)) &&& 255) <<< (8 &&& 31))) ||| ((f (k + 3)) &&& 255))) hx hb hr (fun t ht hW => ⟨_, rfl, bf_word (f k) (f (k + 1)) (f (k + 2)) (f (k + 3)), by rw [ht]⟩) (fun q h => by cases h) dX2_BytesTo32bits_46
set_option maxHeartbeats 4000000 in
set_option maxRecDepth 100000 in
/-- Bits32ToBytes(x, b, k): a word laid as four bytes -/
theorem met_X2_Bits32ToBytes (l : Launch) (dC : Nat → ClassId) (dI : Nat → Nat → Nat) (cB cI : ClassId) (sz : Nat) (h0 ba n k : Nat) (x : Int32) (f : Nat → Int32) (hk : k + 4 ≤ n) (hn : n < 2 ^ 31) : Met l yX2_Bits32ToBytes (ws_ yX2_Bits32ToBytes cX2_Bits32ToBytes 4 none) ({ frames := 0, cells := 0, slots := 0, locals := 0 }) (va_Pc [.ref h0, .int x, .ref ba, .int (nI k)] (bfPre (dC, dI) cB cI [(ba, .inl (cB, n, .inl f))] sz)) (va_Qv (fun _ : Unit => True) (fun _ t => bfPost (dC, dI) [(ba, .inl (cB, n, .inl (bf_put f k x)))] (va_A [(ba, .inl (cB, n, .inl f))] sz) t) (va_A [(ba, .inl (cB, n, .inl f))] sz)) 0 0 (va_A [(ba, .inl (cB, n, .inl f))] sz) := by
  refine Met.ofW (cc := cX2_Bits32ToBytes) (maxL := 4) (ret := none) (by decide) rfl ?_
  intro p e s m args below meth c s₁ hBo hml hv
  obtain ⟨rfl, hsz, hP, hK, hD0⟩ := hv
  have hx := hBo.exec
  have hb := hBo.bytes
  have hr := hBo.returns
  have hts := atoms_spec (ws := (ws_ yX2_Bits32ToBytes cX2_Bits32ToBytes 4 none)) hBo.pre
  have hts : ∀ w ∈ lw_all, w.before _ s = true := fun w h => hts w (List.mem_cons_of_mem _ h)
  have hown : s.vm.findClass RX2 = some m.cls := findClass_of_methodNamed hBo.named
  have hlocks := hBo.notSynchronized
  subst hsz
  have hD := hD0.self (sz := s.heap.size)
  generalize hAe : va_A [(ba, .inl (cB, n, .inl f))] s.heap.size = A at hD ⊢
  have hA : ∀ q : Nat, s.heap.size ≤ q → A q := fun q h => by rw [← hAe]; exact Or.inr h
  have hS : va_S A s.heap s.heap [] := va_S.rf
  have hl := lv_entry ([.ref h0, .int x, .ref ba, .int (nI k)]) (n := 4) (Nat.le_of_ble_eq_true rfl)
  rw [lg_entry_eq]
  generalize (lg_sl ([.ref h0, .int x, .ref ba, .int (nI k)]) ++ List.replicate (4 - (lg_sl ([.ref h0, .int x, .ref ba, .int (nI k)])).length) Slot.unset).toArray = ls at hl ⊢
  have hl : lv_has ls 4 [(0, .ref h0), (1, .int x), (2, .ref ba), (3, .int (nI k))] := hl
  refine lv_aload_n hx hb dX2_Bits32ToBytes_0 rfl (lv_at hl 2 rfl) ?_
  refine lv_iload_n hx hb dX2_Bits32ToBytes_1 rfl (lv_at hl 3 rfl) ?_
  refine lv_iconst (v := 3) hx hb dX2_Bits32ToBytes_2 (by decide) ?_
  refine lv_iadd hx hb dX2_Bits32ToBytes_3 ?_
  refine lv_iload_n hx hb dX2_Bits32ToBytes_4 rfl (lv_at hl 1 rfl) ?_
  refine lv_i2b (v := (x).toInt8.toInt32) hx hb dX2_Bits32ToBytes_5 rfl ?_
  refine bf_bast hx hb hK hP hD hS 0 0 rfl rfl dX2_Bits32ToBytes_6 (k + 3) (nI_add k 3) (by omega) hn (bf_by x 3) (by rw [bf_bb]; exact bf_by3 x) (fun H locs hP hD hS => ?_)
  have hP : va_P (dC, dI) vwCl [(ba, .inl (cB, n, .inl (upd f (k + 3) (bf_by x 3))))] H := hP
  have hD : va_D A [(ba, .inl (cB, n, .inl (upd f (k + 3) (bf_by x 3))))] := hD
  refine lv_aload_n hx hb dX2_Bits32ToBytes_7 rfl (lv_at hl 2 rfl) ?_
  refine lv_iload_n hx hb dX2_Bits32ToBytes_8 rfl (lv_at hl 3 rfl) ?_
  refine lv_iconst (v := 2) hx hb dX2_Bits32ToBytes_9 (by decide) ?_
  refine lv_iadd hx hb dX2_Bits32ToBytes_10 ?_
  refine lv_iload_n hx hb dX2_Bits32ToBytes_11 rfl (lv_at hl 1 rfl) ?_
  refine lv_bipush (v := 8) hx hb dX2_Bits32ToBytes_12 (by decide) ?_
  refine lv_ishr hx hb dX2_Bits32ToBytes_14 ?_
  refine lv_i2b (v := ((x >>> (8 &&& 31))).toInt8.toInt32) hx hb dX2_Bits32ToBytes_15 rfl ?_
  refine bf_bast hx hb hK hP hD hS 0 0 rfl rfl dX2_Bits32ToBytes_16 (k + 2) (nI_add k 2) (by omega) hn (bf_by x 2) (by rw [bf_bb]; exact bf_by2 x) (fun H locs hP hD hS => ?_)
  have hP : va_P (dC, dI) vwCl [(ba, .inl (cB, n, .inl (upd (upd f (k + 3) (bf_by x 3)) (k + 2) (bf_by x 2))))] H := hP
  have hD : va_D A [(ba, .inl (cB, n, .inl (upd (upd f (k + 3) (bf_by x 3)) (k + 2) (bf_by x 2))))] := hD
  refine lv_aload_n hx hb dX2_Bits32ToBytes_17 rfl (lv_at hl 2 rfl) ?_
  refine lv_iload_n hx hb dX2_Bits32ToBytes_18 rfl (lv_at hl 3 rfl) ?_
  refine lv_iconst (v := 1) hx hb dX2_Bits32ToBytes_19 (by decide) ?_
  refine lv_iadd hx hb dX2_Bits32ToBytes_20 ?_
  refine lv_iload_n hx hb dX2_Bits32ToBytes_21 rfl (lv_at hl 1 rfl) ?_
  refine lv_bipush (v := 16) hx hb dX2_Bits32ToBytes_22 (by decide) ?_
  refine lv_ishr hx hb dX2_Bits32ToBytes_24 ?_
  refine lv_i2b (v := ((x >>> (16 &&& 31))).toInt8.toInt32) hx hb dX2_Bits32ToBytes_25 rfl ?_
  refine bf_bast hx hb hK hP hD hS 0 0 rfl rfl dX2_Bits32ToBytes_26 (k + 1) (nI_add k 1) (by omega) hn (bf_by x 1) (by rw [bf_bb]; exact bf_by1 x) (fun H locs hP hD hS => ?_)
  have hP : va_P (dC, dI) vwCl [(ba, .inl (cB, n, .inl (upd (upd (upd f (k + 3) (bf_by x 3)) (k + 2) (bf_by x 2)) (k + 1) (bf_by x 1))))] H := hP
  have hD : va_D A [(ba, .inl (cB, n, .inl (upd (upd (upd f (k + 3) (bf_by x 3)) (k + 2) (bf_by x 2)) (k + 1) (bf_by x 1))))] := hD
  refine lv_aload_n hx hb dX2_Bits32ToBytes_27 rfl (lv_at hl 2 rfl) ?_
  refine lv_iload_n hx hb dX2_Bits32ToBytes_28 rfl (lv_at hl 3 rfl) ?_
  refine lv_iload_n hx hb dX2_Bits32ToBytes_29 rfl (lv_at hl 1 rfl) ?_
  refine lv_bipush (v := 24) hx hb dX2_Bits32ToBytes_30 (by decide) ?_
  refine lv_ishr hx hb dX2_Bits32ToBytes_32 ?_
  refine lv_i2b (v := ((x >>> (24 &&& 31))).toInt8.toInt32) hx hb dX2_Bits32ToBytes_33 rfl ?_
  refine bf_bast hx hb hK hP hD hS 0 0 rfl rfl dX2_Bits32ToBytes_34 k rfl (by omega) hn (bf_by x 0) (by rw [bf_bb]; exact bf_by0 x) (fun H locs hP hD hS => ?_)
  have hP : va_P (dC, dI) vwCl [(ba, .inl (cB, n, .inl (upd (upd (upd (upd f (k + 3) (bf_by x 3)) (k + 2) (bf_by x 2)) (k + 1) (bf_by x 1)) k (bf_by x 0))))] H := hP
  have hD : va_D A [(ba, .inl (cB, n, .inl (upd (upd (upd (upd f (k + 3) (bf_by x 3)) (k + 2) (bf_by x 2)) (k + 1) (bf_by x 1)) k (bf_by x 0))))] := hD
  rw [bf_put_rev] at hP
  have hD := bf_D.re (ws' := [(ba, .inl (cB, n, .inl (bf_put f k x)))]) hD [ba] rfl rfl
  exact W.vret hx hb hr (fun t ht hW => ⟨⟨(), rfl, trivial, by rw [ht]; exact hP, hD⟩, hS.F ht⟩) hS.2.2 dX2_Bits32ToBytes_35
set_option maxHeartbeats 4000000 in
set_option maxRecDepth 100000 in
/-- processTable(x, y, table 0): its 128 pairs are locked anew -/
theorem met_X2_processTable_0 (l : Launch) (dC : Nat → ClassId) (dI : Nat → Nat → Nat) (cB cI : ClassId) (sz : Nat) (h0 a0 a1 a2 a3 a4 : Nat) (en : Int32) (wk : Value) (T : Nat → Int32) (x y : Int32) : Met l yX2_processTable (ws_ yX2_processTable cX2_processTable 7 none) ({ frames := 1, cells := 0, slots := 0, locals := 21 }) (va_Pc [.ref h0, .int x, .int y, .ref a0] (bfPre (dC, dI) cB cI [(h0, .inr (2, [.ref a0, .ref a1, .ref a2, .ref a3, .ref a4, .int en, wk])), (a0, .inl (cI, 256, .inl (fun k => T (18 + k)))), (a1, .inl (cI, 256, .inl (fun k => T (274 + k)))), (a2, .inl (cI, 256, .inl (fun k => T (530 + k)))), (a3, .inl (cI, 256, .inl (fun k => T (786 + k)))), (a4, .inl (cI, 18, .inl T))] sz)) (va_Qv (fun _ : Unit => True) (fun _ t => bfPost (dC, dI) [(h0, .inr (2, [.ref a0, .ref a1, .ref a2, .ref a3, .ref a4, .int en, wk])), (a0, .inl (cI, 256, .inl (fun k => (bf_st T x y 18 128).1 (18 + k)))), (a1, .inl (cI, 256, .inl (fun k => (bf_st T x y 18 128).1 (274 + k)))), (a2, .inl (cI, 256, .inl (fun k => (bf_st T x y 18 128).1 (530 + k)))), (a3, .inl (cI, 256, .inl (fun k => (bf_st T x y 18 128).1 (786 + k)))), (a4, .inl (cI, 18, .inl (bf_st T x y 18 128).1))] (va_A [(h0, .inr (2, [.ref a0, .ref a1, .ref a2, .ref a3, .ref a4, .int en, wk])), (a0, .inl (cI, 256, .inl (fun k => T (18 + k)))), (a1, .inl (cI, 256, .inl (fun k => T (274 + k)))), (a2, .inl (cI, 256, .inl (fun k => T (530 + k)))), (a3, .inl (cI, 256, .inl (fun k => T (786 + k)))), (a4, .inl (cI, 18, .inl T))] sz) t) (va_A [(h0, .inr (2, [.ref a0, .ref a1, .ref a2, .ref a3, .ref a4, .int en, wk])), (a0, .inl (cI, 256, .inl (fun k => T (18 + k)))), (a1, .inl (cI, 256, .inl (fun k => T (274 + k)))), (a2, .inl (cI, 256, .inl (fun k => T (530 + k)))), (a3, .inl (cI, 256, .inl (fun k => T (786 + k)))), (a4, .inl (cI, 18, .inl T))] sz)) 0 0 (va_A [(h0, .inr (2, [.ref a0, .ref a1, .ref a2, .ref a3, .ref a4, .int en, wk])), (a0, .inl (cI, 256, .inl (fun k => T (18 + k)))), (a1, .inl (cI, 256, .inl (fun k => T (274 + k)))), (a2, .inl (cI, 256, .inl (fun k => T (530 + k)))), (a3, .inl (cI, 256, .inl (fun k => T (786 + k)))), (a4, .inl (cI, 18, .inl T))] sz) := by
  refine Met.ofW (cc := cX2_processTable) (maxL := 7) (ret := none) (by decide) rfl ?_
  intro p e s m args below meth c s₁ hBo hml hv
  obtain ⟨rfl, hsz, hP, hK, hD0⟩ := hv
  have hx := hBo.exec
  have hb := hBo.bytes
  have hr := hBo.returns
  have hts := atoms_spec (ws := (ws_ yX2_processTable cX2_processTable 7 none)) hBo.pre
  have hts : ∀ w ∈ lw_all, w.before _ s = true := fun w h => hts w (List.mem_cons_of_mem _ h)
  have hown : s.vm.findClass RX2 = some m.cls := findClass_of_methodNamed hBo.named
  have hlocks := hBo.notSynchronized
  subst hsz
  have hD := hD0.self (sz := s.heap.size)
  generalize hAe : va_A [(h0, .inr (2, [.ref a0, .ref a1, .ref a2, .ref a3, .ref a4, .int en, wk])), (a0, .inl (cI, 256, .inl (fun k => T (18 + k)))), (a1, .inl (cI, 256, .inl (fun k => T (274 + k)))), (a2, .inl (cI, 256, .inl (fun k => T (530 + k)))), (a3, .inl (cI, 256, .inl (fun k => T (786 + k)))), (a4, .inl (cI, 18, .inl T))] s.heap.size = A at hD ⊢
  have hA : ∀ q : Nat, s.heap.size ≤ q → A q := fun q h => by rw [← hAe]; exact Or.inr h
  have hS : va_S A s.heap s.heap [] := va_S.rf
  have hl := lv_entry ([.ref h0, .int x, .int y, .ref a0]) (n := 7) (Nat.le_of_ble_eq_true rfl)
  rw [lg_entry_eq]
  generalize (lg_sl ([.ref h0, .int x, .int y, .ref a0]) ++ List.replicate (7 - (lg_sl ([.ref h0, .int x, .int y, .ref a0])).length) Slot.unset).toArray = ls at hl ⊢
  have hl : lv_has ls 7 [(0, .ref h0), (1, .int x), (2, .int y), (3, .ref a0)] := hl
  refine lv_aload_n hx hb dX2_processTable_0 rfl (lv_at hl 3 rfl) ?_
  refine va_alen (v := nI 256) hx hb hK hP 1 1 rfl rfl rfl dX2_processTable_1 ?_
  refine lv_istore (lv' := [(4, .int (nI 256)), (0, .ref h0), (1, .int x), (2, .int y), (3, .ref a0)]) hx hb dX2_processTable_2 hl (by decide) rfl (fun ls hl => ?_)
  refine lv_iconst (v := 0) hx hb dX2_processTable_4 (by decide) ?_
  refine lv_istore (lv' := [(5, .int 0), (4, .int (nI 256)), (0, .ref h0), (1, .int x), (2, .int y), (3, .ref a0)]) hx hb dX2_processTable_5 hl (by decide) rfl (fun ls hl => ?_)
  have hl := lv_sub (l' := [(0, .ref h0), (1, .int x), (2, .int y), (3, .ref a0), (4, .int (nI 256)), (5, .int 0)]) hl [2, 3, 4, 5, 1, 0] rfl
  refine bf_while 128 (fun i H locs ls => va_P (dC, dI) vwCl [(h0, .inr (2, [.ref a0, .ref a1, .ref a2, .ref a3, .ref a4, .int en, wk])), (a0, .inl (cI, 256, .inl (fun k => (bf_st T x y 18 (i)).1 (18 + k)))), (a1, .inl (cI, 256, .inl (fun k => (bf_st T x y 18 (i)).1 (274 + k)))), (a2, .inl (cI, 256, .inl (fun k => (bf_st T x y 18 (i)).1 (530 + k)))), (a3, .inl (cI, 256, .inl (fun k => (bf_st T x y 18 (i)).1 (786 + k)))), (a4, .inl (cI, 18, .inl (bf_st T x y 18 (i)).1))] H ∧ va_D A [(h0, .inr (2, [.ref a0, .ref a1, .ref a2, .ref a3, .ref a4, .int en, wk])), (a0, .inl (cI, 256, .inl (fun k => (bf_st T x y 18 (i)).1 (18 + k)))), (a1, .inl (cI, 256, .inl (fun k => (bf_st T x y 18 (i)).1 (274 + k)))), (a2, .inl (cI, 256, .inl (fun k => (bf_st T x y 18 (i)).1 (530 + k)))), (a3, .inl (cI, 256, .inl (fun k => (bf_st T x y 18 (i)).1 (786 + k)))), (a4, .inl (cI, 18, .inl (bf_st T x y 18 (i)).1))] ∧ va_S A s.heap H locs ∧ lv_has ls 7 [(0, .ref h0), (1, .int (bf_st T x y 18 (i)).2.1), (2, .int (bf_st T x y 18 (i)).2.2), (3, .ref a0), (4, .int (nI 256)), (5, .int (nI (2 * i)))]) (fun _ => 0) (fun _ => 0) 0 (Nat.zero_le _) ⟨hP, hD, hS, hl⟩ (fun H locs ls hI => ?_) (fun i hi ih H locs ls hI => ?_)
  · obtain ⟨hP, hD, hS, hl⟩ := hI
    refine lv_iload hx hb dX2_processTable_7 (lv_at hl 5 rfl) ?_
    refine lv_iload hx hb dX2_processTable_9 (lv_at hl 4 rfl) ?_
    refine lv_icmp_ge (tgt := 108) hx hb dX2_processTable_11 (by decide) (fun _ => ?_) (fun h9 => absurd (nI_le (Nat.le_of_ble_eq_true rfl) (Nat.le_of_ble_eq_true rfl)) h9)
    exact W.vret hx hb hr (fun t ht hW => ⟨⟨(), rfl, trivial, by rw [ht]; exact hP, hD⟩, hS.F ht⟩) hS.2.2 dX2_processTable_108
  · obtain ⟨hP, hD, hS, hl⟩ := hI
    generalize hTn : (bf_st T x y 18 i).1 = Tn at hP hD
    generalize hxn : (bf_st T x y 18 i).2.1 = xn at hl
    generalize hyn : (bf_st T x y 18 i).2.2 = yn at hl
    refine lv_iload hx hb dX2_processTable_7 (lv_at hl 5 rfl) ?_
    refine lv_iload hx hb dX2_processTable_9 (lv_at hl 4 rfl) ?_
    refine lv_icmp_ge (tgt := 108) hx hb dX2_processTable_11 (by decide) (fun h9 => absurd h9 (nI_ge (by omega) (Nat.le_of_ble_eq_true rfl))) (fun _ => ?_)
    refine lv_iload_n hx hb dX2_processTable_14 rfl (lv_at hl 1 rfl) ?_
    refine lv_aload_n hx hb dX2_processTable_15 rfl (lv_at hl 0 rfl) ?_
    refine va_get (D := (dC, dI)) (ci := 2) (v := .ref a4) (C := RX2) (T := TX2) (N := 7) hx hb hts in_X2 hown hK hP 0 rfl rfl 4 (by decide) (hts _ q78) (fun _ h9 => h9) rfl dX2_processTable_16 ?_
    refine lv_iconst (v := 0) hx hb dX2_processTable_19 (by decide) ?_
    refine bf_iald hx hb hK hP 5 1 rfl rfl dX2_processTable_20 0 rfl (Nat.le_of_ble_eq_true rfl) (Nat.le_of_ble_eq_true rfl) ?_
    refine lv_ixor hx hb dX2_processTable_21 ?_
    refine bf_topE (y := (bf_rn Tn Tn xn yn (2 * 0)).1 ^^^ Tn (2 * 0)) rfl ?_
    refine lv_istore_n (lv' := [(1, .int ((bf_rn Tn Tn xn yn (2 * 0)).1 ^^^ Tn (2 * 0))), (0, .ref h0), (2, .int yn), (3, .ref a0), (4, .int (nI 256)), (5, .int (nI (2 * i)))]) hx hb dX2_processTable_22 rfl hl (by decide) rfl (fun ls hl => ?_)
    refine lv_iconst (v := 1) hx hb dX2_processTable_23 (by decide) ?_
    refine lv_istore (lv' := [(6, .int 1), (1, .int ((bf_rn Tn Tn xn yn (2 * 0)).1 ^^^ Tn (2 * 0))), (0, .ref h0), (2, .int yn), (3, .ref a0), (4, .int (nI 256)), (5, .int (nI (2 * i)))]) hx hb dX2_processTable_24 hl (by decide) rfl (fun ls hl => ?_)
    have hl := lv_sub (l' := [(0, .ref h0), (1, .int ((bf_rn Tn Tn xn yn (2 * 0)).1 ^^^ Tn (2 * 0))), (2, .int yn), (3, .ref a0), (4, .int (nI 256)), (5, .int (nI (2 * i))), (6, .int 1)]) hl [2, 1, 3, 4, 5, 6, 0] rfl
    refine bf_while 8 (fun j H locs ls => va_P (dC, dI) vwCl [(h0, .inr (2, [.ref a0, .ref a1, .ref a2, .ref a3, .ref a4, .int en, wk])), (a0, .inl (cI, 256, .inl (fun k => Tn (18 + k)))), (a1, .inl (cI, 256, .inl (fun k => Tn (274 + k)))), (a2, .inl (cI, 256, .inl (fun k => Tn (530 + k)))), (a3, .inl (cI, 256, .inl (fun k => Tn (786 + k)))), (a4, .inl (cI, 18, .inl Tn))] H ∧ va_D A [(h0, .inr (2, [.ref a0, .ref a1, .ref a2, .ref a3, .ref a4, .int en, wk])), (a0, .inl (cI, 256, .inl (fun k => Tn (18 + k)))), (a1, .inl (cI, 256, .inl (fun k => Tn (274 + k)))), (a2, .inl (cI, 256, .inl (fun k => Tn (530 + k)))), (a3, .inl (cI, 256, .inl (fun k => Tn (786 + k)))), (a4, .inl (cI, 18, .inl Tn))] ∧ va_S A s.heap H locs ∧ lv_has ls 7 [(0, .ref h0), (1, .int ((bf_rn Tn Tn xn yn (2 * j)).1 ^^^ Tn (2 * j))), (2, .int (bf_rn Tn Tn xn yn (2 * j)).2), (3, .ref a0), (4, .int (nI 256)), (5, .int (nI (2 * i))), (6, .int (nI (2 * j + 1)))]) (fun _ => 0) (fun _ => 0) 0 (Nat.zero_le _) ⟨hP, hD, hS, hl⟩ (fun H locs ls hI => ?_) (fun j hj jh H locs ls hI => ?_)
    · obtain ⟨hP, hD, hS, hl⟩ := hI
      refine lv_iload hx hb dX2_processTable_26 (lv_at hl 6 rfl) ?_
      refine lv_bipush (v := 16) hx hb dX2_processTable_28 (by decide) ?_
      refine lv_icmp_ge (tgt := 73) hx hb dX2_processTable_30 (by decide) (fun _ => ?_) (fun h9 => absurd (nI_le (a := 16) (b := 2 * 8 + 1) (Nat.le_of_ble_eq_true rfl) (Nat.le_of_ble_eq_true rfl)) h9)
      refine lv_iload_n hx hb dX2_processTable_73 rfl (lv_at hl 2 rfl) ?_
      refine lv_aload_n hx hb dX2_processTable_74 rfl (lv_at hl 0 rfl) ?_
      refine va_get (D := (dC, dI)) (ci := 2) (v := .ref a4) (C := RX2) (T := TX2) (N := 7) hx hb hts in_X2 hown hK hP 0 rfl rfl 4 (by decide) (hts _ q78) (fun _ h9 => h9) rfl dX2_processTable_75 ?_
      refine lv_bipush (v := 17) hx hb dX2_processTable_78 (by decide) ?_
      refine bf_iald hx hb hK hP 5 1 rfl rfl dX2_processTable_80 17 rfl (Nat.le_of_ble_eq_true rfl) (Nat.le_of_ble_eq_true rfl) ?_
      refine lv_ixor hx hb dX2_processTable_81 ?_
      refine bf_topE (y := (bf_cr Tn Tn xn yn).1) rfl ?_
      refine lv_istore_n (lv' := [(2, .int ((bf_cr Tn Tn xn yn).1)), (0, .ref h0), (1, .int ((bf_rn Tn Tn xn yn (2 * 8)).1 ^^^ Tn (2 * 8))), (3, .ref a0), (4, .int (nI 256)), (5, .int (nI (2 * i))), (6, .int (nI (2 * 8 + 1)))]) hx hb dX2_processTable_82 rfl hl (by decide) rfl (fun ls hl => ?_)
      have hl := lv_sub (l' := [(0, .ref h0), (1, .int (bf_cr Tn Tn xn yn).2), (2, .int (bf_cr Tn Tn xn yn).1), (3, .ref a0), (4, .int (nI 256)), (5, .int (nI (2 * i)))]) hl [1, 2, 0, 3, 4, 5] rfl
      refine lv_aload_n hx hb dX2_processTable_83 rfl (lv_at hl 3 rfl) ?_
      refine lv_iload hx hb dX2_processTable_84 (lv_at hl 5 rfl) ?_
      refine lv_iload_n hx hb dX2_processTable_86 rfl (lv_at hl 2 rfl) ?_
      refine bf_iast hx hb hK hP hD hS 1 1 rfl rfl dX2_processTable_87 (2 * i) rfl (by omega) (Nat.le_of_ble_eq_true rfl) (fun H locs hP hD hS => ?_)
      have hP : va_P (dC, dI) vwCl [(h0, .inr (2, [.ref a0, .ref a1, .ref a2, .ref a3, .ref a4, .int en, wk])), (a0, .inl (cI, 256, .inl (upd (fun k => Tn (18 + k)) (2 * i) ((bf_cr Tn Tn xn yn).1)))), (a1, .inl (cI, 256, .inl (fun k => Tn (274 + k)))), (a2, .inl (cI, 256, .inl (fun k => Tn (530 + k)))), (a3, .inl (cI, 256, .inl (fun k => Tn (786 + k)))), (a4, .inl (cI, 18, .inl Tn))] H := hP
      have hD : va_D A [(h0, .inr (2, [.ref a0, .ref a1, .ref a2, .ref a3, .ref a4, .int en, wk])), (a0, .inl (cI, 256, .inl (upd (fun k => Tn (18 + k)) (2 * i) ((bf_cr Tn Tn xn yn).1)))), (a1, .inl (cI, 256, .inl (fun k => Tn (274 + k)))), (a2, .inl (cI, 256, .inl (fun k => Tn (530 + k)))), (a3, .inl (cI, 256, .inl (fun k => Tn (786 + k)))), (a4, .inl (cI, 18, .inl Tn))] := hD
      have hP := bf_upd_0 (wz := []) (by omega) hP
      have hD := bf_D.re (ws' := [(h0, .inr (2, [.ref a0, .ref a1, .ref a2, .ref a3, .ref a4, .int en, wk])), (a0, .inl (cI, 256, .inl (fun k => (upd Tn (18 + 2 * i) (bf_cr Tn Tn xn yn).1) (18 + k)))), (a1, .inl (cI, 256, .inl (fun k => (upd Tn (18 + 2 * i) (bf_cr Tn Tn xn yn).1) (274 + k)))), (a2, .inl (cI, 256, .inl (fun k => (upd Tn (18 + 2 * i) (bf_cr Tn Tn xn yn).1) (530 + k)))), (a3, .inl (cI, 256, .inl (fun k => (upd Tn (18 + 2 * i) (bf_cr Tn Tn xn yn).1) (786 + k)))), (a4, .inl (cI, 18, .inl (upd Tn (18 + 2 * i) (bf_cr Tn Tn xn yn).1)))]) hD [h0, a0, a1, a2, a3, a4] rfl rfl
      have hP : va_P (dC, dI) vwCl [(h0, .inr (2, [.ref a0, .ref a1, .ref a2, .ref a3, .ref a4, .int en, wk])), (a0, .inl (cI, 256, .inl (fun k => (upd Tn (18 + 2 * i) (bf_cr Tn Tn xn yn).1) (18 + k)))), (a1, .inl (cI, 256, .inl (fun k => (upd Tn (18 + 2 * i) (bf_cr Tn Tn xn yn).1) (274 + k)))), (a2, .inl (cI, 256, .inl (fun k => (upd Tn (18 + 2 * i) (bf_cr Tn Tn xn yn).1) (530 + k)))), (a3, .inl (cI, 256, .inl (fun k => (upd Tn (18 + 2 * i) (bf_cr Tn Tn xn yn).1) (786 + k)))), (a4, .inl (cI, 18, .inl (upd Tn (18 + 2 * i) (bf_cr Tn Tn xn yn).1)))] H := hP
      have hD : va_D A [(h0, .inr (2, [.ref a0, .ref a1, .ref a2, .ref a3, .ref a4, .int en, wk])), (a0, .inl (cI, 256, .inl (fun k => (upd Tn (18 + 2 * i) (bf_cr Tn Tn xn yn).1) (18 + k)))), (a1, .inl (cI, 256, .inl (fun k => (upd Tn (18 + 2 * i) (bf_cr Tn Tn xn yn).1) (274 + k)))), (a2, .inl (cI, 256, .inl (fun k => (upd Tn (18 + 2 * i) (bf_cr Tn Tn xn yn).1) (530 + k)))), (a3, .inl (cI, 256, .inl (fun k => (upd Tn (18 + 2 * i) (bf_cr Tn Tn xn yn).1) (786 + k)))), (a4, .inl (cI, 18, .inl (upd Tn (18 + 2 * i) (bf_cr Tn Tn xn yn).1)))] := hD
      refine lv_aload_n hx hb dX2_processTable_88 rfl (lv_at hl 3 rfl) ?_
      refine lv_iload hx hb dX2_processTable_89 (lv_at hl 5 rfl) ?_
      refine lv_iconst (v := 1) hx hb dX2_processTable_91 (by decide) ?_
      refine lv_iadd hx hb dX2_processTable_92 ?_
      refine lv_iload_n hx hb dX2_processTable_93 rfl (lv_at hl 1 rfl) ?_
      refine bf_iast hx hb hK hP hD hS 1 1 rfl rfl dX2_processTable_94 (2 * i + 1) (nI_add (2 * i) 1) (by omega) (Nat.le_of_ble_eq_true rfl) (fun H locs hP hD hS => ?_)
      have hP : va_P (dC, dI) vwCl [(h0, .inr (2, [.ref a0, .ref a1, .ref a2, .ref a3, .ref a4, .int en, wk])), (a0, .inl (cI, 256, .inl (upd (fun k => (upd Tn (18 + 2 * i) (bf_cr Tn Tn xn yn).1) (18 + k)) (2 * i + 1) ((bf_cr Tn Tn xn yn).2)))), (a1, .inl (cI, 256, .inl (fun k => (upd Tn (18 + 2 * i) (bf_cr Tn Tn xn yn).1) (274 + k)))), (a2, .inl (cI, 256, .inl (fun k => (upd Tn (18 + 2 * i) (bf_cr Tn Tn xn yn).1) (530 + k)))), (a3, .inl (cI, 256, .inl (fun k => (upd Tn (18 + 2 * i) (bf_cr Tn Tn xn yn).1) (786 + k)))), (a4, .inl (cI, 18, .inl (upd Tn (18 + 2 * i) (bf_cr Tn Tn xn yn).1)))] H := hP
      have hD : va_D A [(h0, .inr (2, [.ref a0, .ref a1, .ref a2, .ref a3, .ref a4, .int en, wk])), (a0, .inl (cI, 256, .inl (upd (fun k => (upd Tn (18 + 2 * i) (bf_cr Tn Tn xn yn).1) (18 + k)) (2 * i + 1) ((bf_cr Tn Tn xn yn).2)))), (a1, .inl (cI, 256, .inl (fun k => (upd Tn (18 + 2 * i) (bf_cr Tn Tn xn yn).1) (274 + k)))), (a2, .inl (cI, 256, .inl (fun k => (upd Tn (18 + 2 * i) (bf_cr Tn Tn xn yn).1) (530 + k)))), (a3, .inl (cI, 256, .inl (fun k => (upd Tn (18 + 2 * i) (bf_cr Tn Tn xn yn).1) (786 + k)))), (a4, .inl (cI, 18, .inl (upd Tn (18 + 2 * i) (bf_cr Tn Tn xn yn).1)))] := hD
      have hP := bf_upd_0 (wz := []) (by omega) hP
      have hD := bf_D.re (ws' := [(h0, .inr (2, [.ref a0, .ref a1, .ref a2, .ref a3, .ref a4, .int en, wk])), (a0, .inl (cI, 256, .inl (fun k => (upd (upd Tn (18 + 2 * i) (bf_cr Tn Tn xn yn).1) (18 + (2 * i + 1)) (bf_cr Tn Tn xn yn).2) (18 + k)))), (a1, .inl (cI, 256, .inl (fun k => (upd (upd Tn (18 + 2 * i) (bf_cr Tn Tn xn yn).1) (18 + (2 * i + 1)) (bf_cr Tn Tn xn yn).2) (274 + k)))), (a2, .inl (cI, 256, .inl (fun k => (upd (upd Tn (18 + 2 * i) (bf_cr Tn Tn xn yn).1) (18 + (2 * i + 1)) (bf_cr Tn Tn xn yn).2) (530 + k)))), (a3, .inl (cI, 256, .inl (fun k => (upd (upd Tn (18 + 2 * i) (bf_cr Tn Tn xn yn).1) (18 + (2 * i + 1)) (bf_cr Tn Tn xn yn).2) (786 + k)))), (a4, .inl (cI, 18, .inl (upd (upd Tn (18 + 2 * i) (bf_cr Tn Tn xn yn).1) (18 + (2 * i + 1)) (bf_cr Tn Tn xn yn).2)))]) hD [h0, a0, a1, a2, a3, a4] rfl rfl
      have hP : va_P (dC, dI) vwCl [(h0, .inr (2, [.ref a0, .ref a1, .ref a2, .ref a3, .ref a4, .int en, wk])), (a0, .inl (cI, 256, .inl (fun k => (upd (upd Tn (18 + 2 * i) (bf_cr Tn Tn xn yn).1) (18 + (2 * i + 1)) (bf_cr Tn Tn xn yn).2) (18 + k)))), (a1, .inl (cI, 256, .inl (fun k => (upd (upd Tn (18 + 2 * i) (bf_cr Tn Tn xn yn).1) (18 + (2 * i + 1)) (bf_cr Tn Tn xn yn).2) (274 + k)))), (a2, .inl (cI, 256, .inl (fun k => (upd (upd Tn (18 + 2 * i) (bf_cr Tn Tn xn yn).1) (18 + (2 * i + 1)) (bf_cr Tn Tn xn yn).2) (530 + k)))), (a3, .inl (cI, 256, .inl (fun k => (upd (upd Tn (18 + 2 * i) (bf_cr Tn Tn xn yn).1) (18 + (2 * i + 1)) (bf_cr Tn Tn xn yn).2) (786 + k)))), (a4, .inl (cI, 18, .inl (upd (upd Tn (18 + 2 * i) (bf_cr Tn Tn xn yn).1) (18 + (2 * i + 1)) (bf_cr Tn Tn xn yn).2)))] H := hP
      have hD : va_D A [(h0, .inr (2, [.ref a0, .ref a1, .ref a2, .ref a3, .ref a4, .int en, wk])), (a0, .inl (cI, 256, .inl (fun k => (upd (upd Tn (18 + 2 * i) (bf_cr Tn Tn xn yn).1) (18 + (2 * i + 1)) (bf_cr Tn Tn xn yn).2) (18 + k)))), (a1, .inl (cI, 256, .inl (fun k => (upd (upd Tn (18 + 2 * i) (bf_cr Tn Tn xn yn).1) (18 + (2 * i + 1)) (bf_cr Tn Tn xn yn).2) (274 + k)))), (a2, .inl (cI, 256, .inl (fun k => (upd (upd Tn (18 + 2 * i) (bf_cr Tn Tn xn yn).1) (18 + (2 * i + 1)) (bf_cr Tn Tn xn yn).2) (530 + k)))), (a3, .inl (cI, 256, .inl (fun k => (upd (upd Tn (18 + 2 * i) (bf_cr Tn Tn xn yn).1) (18 + (2 * i + 1)) (bf_cr Tn Tn xn yn).2) (786 + k)))), (a4, .inl (cI, 18, .inl (upd (upd Tn (18 + 2 * i) (bf_cr Tn Tn xn yn).1) (18 + (2 * i + 1)) (bf_cr Tn Tn xn yn).2)))] := hD
      refine lv_iload_n hx hb dX2_processTable_95 rfl (lv_at hl 1 rfl) ?_
      refine lv_istore_n (lv' := [(2, .int (bf_cr Tn Tn xn yn).2), (0, .ref h0), (1, .int (bf_cr Tn Tn xn yn).2), (3, .ref a0), (4, .int (nI 256)), (5, .int (nI (2 * i)))]) hx hb dX2_processTable_96 rfl hl (by decide) rfl (fun ls hl => ?_)
      refine lv_aload_n hx hb dX2_processTable_97 rfl (lv_at hl 3 rfl) ?_
      refine lv_iload hx hb dX2_processTable_98 (lv_at hl 5 rfl) ?_
      refine bf_iald hx hb hK hP 1 1 rfl rfl dX2_processTable_100 (2 * i) rfl (by omega) (Nat.le_of_ble_eq_true rfl) ?_
      refine bf_topE (y := (bf_cr Tn Tn xn yn).1) (by show upd (upd Tn (18 + 2 * i) _) (18 + (2 * i + 1)) _ (18 + 2 * i) = _; rw [pk_un (by omega), pk_us]) ?_
      refine lv_istore_n (lv' := [(1, .int ((bf_cr Tn Tn xn yn).1)), (2, .int (bf_cr Tn Tn xn yn).2), (0, .ref h0), (3, .ref a0), (4, .int (nI 256)), (5, .int (nI (2 * i)))]) hx hb dX2_processTable_101 rfl hl (by decide) rfl (fun ls hl => ?_)
      refine lv_iinc (v := nI (2 * (i + 1))) (lv' := [(5, .int (nI (2 * (i + 1)))), (1, .int ((bf_cr Tn Tn xn yn).1)), (2, .int (bf_cr Tn Tn xn yn).2), (0, .ref h0), (3, .ref a0), (4, .int (nI 256))]) hx hb dX2_processTable_102 hl (k := 5) rfl (by rw [show 2 * (i + 1) = 2 * i + 2 by omega]; exact nI_add (2 * i) 2) (by decide) rfl (fun ls hl => ?_)
      refine lv_goto (tgt := 7) hx hb dX2_processTable_105 (by decide) ?_
      subst hTn; subst hxn; subst hyn
      refine ih H locs ls ⟨?_, ?_, hS, ?_⟩
      · exact hP
      · exact hD
      · exact lv_sub hl [3, 1, 2, 4, 5, 0] rfl
    · obtain ⟨hP, hD, hS, hl⟩ := hI
      refine lv_iload hx hb dX2_processTable_26 (lv_at hl 6 rfl) ?_
      refine lv_bipush (v := 16) hx hb dX2_processTable_28 (by decide) ?_
      refine lv_icmp_ge (tgt := 73) hx hb dX2_processTable_30 (by decide) (fun h9 => absurd h9 (nI_ge (a := 2 * j + 1) (b := 16) (by omega) (Nat.le_of_ble_eq_true rfl))) (fun _ => ?_)
      refine lv_iload_n hx hb dX2_processTable_33 rfl (lv_at hl 2 rfl) ?_
      refine lv_aload_n hx hb dX2_processTable_34 rfl (lv_at hl 0 rfl) ?_
      refine lv_iload_n hx hb dX2_processTable_35 rfl (lv_at hl 1 rfl) ?_
      refine bf_calli (va_Run.run (va_runV (As := [.int ((bf_rn Tn Tn xn yn (2 * j)).1 ^^^ Tn (2 * j))]) (rest := [.int (bf_rn Tn Tn xn yn (2 * j)).2]) ⟨hx, hb, hml, hown, hts⟩ (met_X2_F l dC dI cB cI h0 a0 a1 a2 a3 a4 en wk Tn ((bf_rn Tn Tn xn yn (2 * j)).1 ^^^ Tn (2 * j))) (cwV 1 hts (lw_V q218 q220 qs4 q16 q221) rfl rfl rfl (by decide +kernel) ⟨Nat.le_of_ble_eq_true rfl, Nat.le_of_ble_eq_true rfl⟩) (bf_rdV hK hP [0, 1, 2, 3, 4] rfl (ci := 2) (q0 := 0) rfl rfl) rfl rfl hl.1 rfl (lv_room (Nat.le_of_ble_eq_true rfl)) dX2_processTable_36 ⟨Nat.le_of_ble_eq_true rfl, Nat.le_of_ble_eq_true rfl⟩)) ?_
      refine lv_aload_n hx hb dX2_processTable_39 rfl (lv_at hl 0 rfl) ?_
      refine va_get (D := (dC, dI)) (ci := 2) (v := .ref a4) (C := RX2) (T := TX2) (N := 7) hx hb hts in_X2 hown hK hP 0 rfl rfl 4 (by decide) (hts _ q78) (fun _ h9 => h9) rfl dX2_processTable_40 ?_
      refine lv_iload hx hb dX2_processTable_43 (lv_at hl 6 rfl) ?_
      refine bf_iald hx hb hK hP 5 1 rfl rfl dX2_processTable_45 (2 * j + 1) rfl (by omega) (Nat.le_of_ble_eq_true rfl) ?_
      refine lv_ixor hx hb dX2_processTable_46 ?_
      refine lv_ixor hx hb dX2_processTable_47 ?_
      refine bf_topE (y := (bf_rn Tn Tn xn yn (2 * j + 2)).2) (bf_two1 _ _ _ _ _) ?_
      refine lv_istore_n (lv' := [(2, .int ((bf_rn Tn Tn xn yn (2 * j + 2)).2)), (0, .ref h0), (1, .int ((bf_rn Tn Tn xn yn (2 * j)).1 ^^^ Tn (2 * j))), (3, .ref a0), (4, .int (nI 256)), (5, .int (nI (2 * i))), (6, .int (nI (2 * j + 1)))]) hx hb dX2_processTable_48 rfl hl (by decide) rfl (fun ls hl => ?_)
      refine lv_iload_n hx hb dX2_processTable_49 rfl (lv_at hl 2 rfl) ?_
      refine lv_aload_n hx hb dX2_processTable_50 rfl (lv_at hl 1 rfl) ?_
      refine lv_iload_n hx hb dX2_processTable_51 rfl (lv_at hl 0 rfl) ?_
      refine bf_calli (va_Run.run (va_runV (As := [.int ((bf_rn Tn Tn xn yn (2 * j + 2)).2)]) (rest := [.int ((bf_rn Tn Tn xn yn (2 * j)).1 ^^^ Tn (2 * j))]) ⟨hx, hb, hml, hown, hts⟩ (met_X2_F l dC dI cB cI h0 a0 a1 a2 a3 a4 en wk Tn ((bf_rn Tn Tn xn yn (2 * j + 2)).2)) (cwV 1 hts (lw_V q218 q220 qs4 q16 q221) rfl rfl rfl (by decide +kernel) ⟨Nat.le_of_ble_eq_true rfl, Nat.le_of_ble_eq_true rfl⟩) (bf_rdV hK hP [0, 1, 2, 3, 4] rfl (ci := 2) (q0 := 0) rfl rfl) rfl rfl hl.1 rfl (lv_room (Nat.le_of_ble_eq_true rfl)) dX2_processTable_52 ⟨Nat.le_of_ble_eq_true rfl, Nat.le_of_ble_eq_true rfl⟩)) ?_
      refine lv_aload_n hx hb dX2_processTable_55 rfl (lv_at hl 1 rfl) ?_
      refine va_get (D := (dC, dI)) (ci := 2) (v := .ref a4) (C := RX2) (T := TX2) (N := 7) hx hb hts in_X2 hown hK hP 0 rfl rfl 4 (by decide) (hts _ q78) (fun _ h9 => h9) rfl dX2_processTable_56 ?_
      refine lv_iload hx hb dX2_processTable_59 (lv_at hl 6 rfl) ?_
      refine lv_iconst (v := 1) hx hb dX2_processTable_61 (by decide) ?_
      refine lv_iadd hx hb dX2_processTable_62 ?_
      refine bf_iald hx hb hK hP 5 1 rfl rfl dX2_processTable_63 (2 * j + 2) (nI_add (2 * j + 1) 1) (by omega) (Nat.le_of_ble_eq_true rfl) ?_
      refine lv_ixor hx hb dX2_processTable_64 ?_
      refine lv_ixor hx hb dX2_processTable_65 ?_
      refine bf_topE (y := (bf_rn Tn Tn xn yn (2 * j + 2)).1 ^^^ Tn (2 * j + 2)) (bf_two2 _ _ _ _ _) ?_
      refine lv_istore_n (lv' := [(1, .int ((bf_rn Tn Tn xn yn (2 * j + 2)).1 ^^^ Tn (2 * j + 2))), (2, .int ((bf_rn Tn Tn xn yn (2 * j + 2)).2)), (0, .ref h0), (3, .ref a0), (4, .int (nI 256)), (5, .int (nI (2 * i))), (6, .int (nI (2 * j + 1)))]) hx hb dX2_processTable_66 rfl hl (by decide) rfl (fun ls hl => ?_)
      refine lv_iinc (v := nI (2 * (j + 1) + 1)) (lv' := [(6, .int (nI (2 * (j + 1) + 1))), (1, .int ((bf_rn Tn Tn xn yn (2 * j + 2)).1 ^^^ Tn (2 * j + 2))), (2, .int ((bf_rn Tn Tn xn yn (2 * j + 2)).2)), (0, .ref h0), (3, .ref a0), (4, .int (nI 256)), (5, .int (nI (2 * i)))]) hx hb dX2_processTable_67 hl (k := 6) rfl (by rw [show 2 * (j + 1) + 1 = 2 * j + 1 + 2 by omega]; exact nI_add (2 * j + 1) 2) (by decide) rfl (fun ls hl => ?_)
      refine lv_goto (tgt := 26) hx hb dX2_processTable_70 (by decide) ?_
      exact jh H locs ls ⟨hP, hD, hS, lv_sub hl [3, 1, 2, 4, 5, 6, 0] rfl⟩
set_option maxHeartbeats 4000000 in
set_option maxRecDepth 100000 in
/-- processTable(x, y, table 1): its 128 pairs are locked anew -/
theorem met_X2_processTable_1 (l : Launch) (dC : Nat → ClassId) (dI : Nat → Nat → Nat) (cB cI : ClassId) (sz : Nat) (h0 a0 a1 a2 a3 a4 : Nat) (en : Int32) (wk : Value) (T : Nat → Int32) (x y : Int32) : Met l yX2_processTable (ws_ yX2_processTable cX2_processTable 7 none) ({ frames := 1, cells := 0, slots := 0, locals := 21 }) (va_Pc [.ref h0, .int x, .int y, .ref a1] (bfPre (dC, dI) cB cI [(h0, .inr (2, [.ref a0, .ref a1, .ref a2, .ref a3, .ref a4, .int en, wk])), (a0, .inl (cI, 256, .inl (fun k => T (18 + k)))), (a1, .inl (cI, 256, .inl (fun k => T (274 + k)))), (a2, .inl (cI, 256, .inl (fun k => T (530 + k)))), (a3, .inl (cI, 256, .inl (fun k => T (786 + k)))), (a4, .inl (cI, 18, .inl T))] sz)) (va_Qv (fun _ : Unit => True) (fun _ t => bfPost (dC, dI) [(h0, .inr (2, [.ref a0, .ref a1, .ref a2, .ref a3, .ref a4, .int en, wk])), (a0, .inl (cI, 256, .inl (fun k => (bf_st T x y 274 128).1 (18 + k)))), (a1, .inl (cI, 256, .inl (fun k => (bf_st T x y 274 128).1 (274 + k)))), (a2, .inl (cI, 256, .inl (fun k => (bf_st T x y 274 128).1 (530 + k)))), (a3, .inl (cI, 256, .inl (fun k => (bf_st T x y 274 128).1 (786 + k)))), (a4, .inl (cI, 18, .inl (bf_st T x y 274 128).1))] (va_A [(h0, .inr (2, [.ref a0, .ref a1, .ref a2, .ref a3, .ref a4, .int en, wk])), (a0, .inl (cI, 256, .inl (fun k => T (18 + k)))), (a1, .inl (cI, 256, .inl (fun k => T (274 + k)))), (a2, .inl (cI, 256, .inl (fun k => T (530 + k)))), (a3, .inl (cI, 256, .inl (fun k => T (786 + k)))), (a4, .inl (cI, 18, .inl T))] sz) t) (va_A [(h0, .inr (2, [.ref a0, .ref a1, .ref a2, .ref a3, .ref a4, .int en, wk])), (a0, .inl (cI, 256, .inl (fun k => T (18 + k)))), (a1, .inl (cI, 256, .inl (fun k => T (274 + k)))), (a2, .inl (cI, 256, .inl (fun k => T (530 + k)))), (a3, .inl (cI, 256, .inl (fun k => T (786 + k)))), (a4, .inl (cI, 18, .inl T))] sz)) 0 0 (va_A [(h0, .inr (2, [.ref a0, .ref a1, .ref a2, .ref a3, .ref a4, .int en, wk])), (a0, .inl (cI, 256, .inl (fun k => T (18 + k)))), (a1, .inl (cI, 256, .inl (fun k => T (274 + k)))), (a2, .inl (cI, 256, .inl (fun k => T (530 + k)))), (a3, .inl (cI, 256, .inl (fun k => T (786 + k)))), (a4, .inl (cI, 18, .inl T))] sz) := by
  refine Met.ofW (cc := cX2_processTable) (maxL := 7) (ret := none) (by decide) rfl ?_
  intro p e s m args below meth c s₁ hBo hml hv
  obtain ⟨rfl, hsz, hP, hK, hD0⟩ := hv
  have hx := hBo.exec
  have hb := hBo.bytes
  have hr := hBo.returns
  have hts := atoms_spec (ws := (ws_ yX2_processTable cX2_processTable 7 none)) hBo.pre
  have hts : ∀ w ∈ lw_all, w.before _ s = true := fun w h => hts w (List.mem_cons_of_mem _ h)
  have hown : s.vm.findClass RX2 = some m.cls := findClass_of_methodNamed hBo.named
  have hlocks := hBo.notSynchronized
  subst hsz
  have hD := hD0.self (sz := s.heap.size)
  generalize hAe : va_A [(h0, .inr (2, [.ref a0, .ref a1, .ref a2, .ref a3, .ref a4, .int en, wk])), (a0, .inl (cI, 256, .inl (fun k => T (18 + k)))), (a1, .inl (cI, 256, .inl (fun k => T (274 + k)))), (a2, .inl (cI, 256, .inl (fun k => T (530 + k)))), (a3, .inl (cI, 256, .inl (fun k => T (786 + k)))), (a4, .inl (cI, 18, .inl T))] s.heap.size = A at hD ⊢
  have hA : ∀ q : Nat, s.heap.size ≤ q → A q := fun q h => by rw [← hAe]; exact Or.inr h
  have hS : va_S A s.heap s.heap [] := va_S.rf
  have hl := lv_entry ([.ref h0, .int x, .int y, .ref a1]) (n := 7) (Nat.le_of_ble_eq_true rfl)
  rw [lg_entry_eq]
  generalize (lg_sl ([.ref h0, .int x, .int y, .ref a1]) ++ List.replicate (7 - (lg_sl ([.ref h0, .int x, .int y, .ref a1])).length) Slot.unset).toArray = ls at hl ⊢
  have hl : lv_has ls 7 [(0, .ref h0), (1, .int x), (2, .int y), (3, .ref a1)] := hl
  refine lv_aload_n hx hb dX2_processTable_0 rfl (lv_at hl 3 rfl) ?_
  refine va_alen (v := nI 256) hx hb hK hP 2 1 rfl rfl rfl dX2_processTable_1 ?_
  refine lv_istore (lv' := [(4, .int (nI 256)), (0, .ref h0), (1, .int x), (2, .int y), (3, .ref a1)]) hx hb dX2_processTable_2 hl (by decide) rfl (fun ls hl => ?_)
  refine lv_iconst (v := 0) hx hb dX2_processTable_4 (by decide) ?_
  refine lv_istore (lv' := [(5, .int 0), (4, .int (nI 256)), (0, .ref h0), (1, .int x), (2, .int y), (3, .ref a1)]) hx hb dX2_processTable_5 hl (by decide) rfl (fun ls hl => ?_)
  have hl := lv_sub (l' := [(0, .ref h0), (1, .int x), (2, .int y), (3, .ref a1), (4, .int (nI 256)), (5, .int 0)]) hl [2, 3, 4, 5, 1, 0] rfl
  refine bf_while 128 (fun i H locs ls => va_P (dC, dI) vwCl [(h0, .inr (2, [.ref a0, .ref a1, .ref a2, .ref a3, .ref a4, .int en, wk])), (a0, .inl (cI, 256, .inl (fun k => (bf_st T x y 274 (i)).1 (18 + k)))), (a1, .inl (cI, 256, .inl (fun k => (bf_st T x y 274 (i)).1 (274 + k)))), (a2, .inl (cI, 256, .inl (fun k => (bf_st T x y 274 (i)).1 (530 + k)))), (a3, .inl (cI, 256, .inl (fun k => (bf_st T x y 274 (i)).1 (786 + k)))), (a4, .inl (cI, 18, .inl (bf_st T x y 274 (i)).1))] H ∧ va_D A [(h0, .inr (2, [.ref a0, .ref a1, .ref a2, .ref a3, .ref a4, .int en, wk])), (a0, .inl (cI, 256, .inl (fun k => (bf_st T x y 274 (i)).1 (18 + k)))), (a1, .inl (cI, 256, .inl (fun k => (bf_st T x y 274 (i)).1 (274 + k)))), (a2, .inl (cI, 256, .inl (fun k => (bf_st T x y 274 (i)).1 (530 + k)))), (a3, .inl (cI, 256, .inl (fun k => (bf_st T x y 274 (i)).1 (786 + k)))), (a4, .inl (cI, 18, .inl (bf_st T x y 274 (i)).1))] ∧ va_S A s.heap H locs ∧ lv_has ls 7 [(0, .ref h0), (1, .int (bf_st T x y 274 (i)).2.1), (2, .int (bf_st T x y 274 (i)).2.2), (3, .ref a1), (4, .int (nI 256)), (5, .int (nI (2 * i)))]) (fun _ => 0) (fun _ => 0) 0 (Nat.zero_le _) ⟨hP, hD, hS, hl⟩ (fun H locs ls hI => ?_) (fun i hi ih H locs ls hI => ?_)
  · obtain ⟨hP, hD, hS, hl⟩ := hI
    refine lv_iload hx hb dX2_processTable_7 (lv_at hl 5 rfl) ?_
    refine lv_iload hx hb dX2_processTable_9 (lv_at hl 4 rfl) ?_
    refine lv_icmp_ge (tgt := 108) hx hb dX2_processTable_11 (by decide) (fun _ => ?_) (fun h9 => absurd (nI_le (Nat.le_of_ble_eq_true rfl) (Nat.le_of_ble_eq_true rfl)) h9)
    exact W.vret hx hb hr (fun t ht hW => ⟨⟨(), rfl, trivial, by rw [ht]; exact hP, hD⟩, hS.F ht⟩) hS.2.2 dX2_processTable_108
  · obtain ⟨hP, hD, hS, hl⟩ := hI
    generalize hTn : (bf_st T x y 274 i).1 = Tn at hP hD
    generalize hxn : (bf_st T x y 274 i).2.1 = xn at hl
    generalize hyn : (bf_st T x y 274 i).2.2 = yn at hl
    refine lv_iload hx hb dX2_processTable_7 (lv_at hl 5 rfl) ?_
    refine lv_iload hx hb dX2_processTable_9 (lv_at hl 4 rfl) ?_
    refine lv_icmp_ge (tgt := 108) hx hb dX2_processTable_11 (by decide) (fun h9 => absurd h9 (nI_ge (by omega) (Nat.le_of_ble_eq_true rfl))) (fun _ => ?_)
    refine lv_iload_n hx hb dX2_processTable_14 rfl (lv_at hl 1 rfl) ?_
    refine lv_aload_n hx hb dX2_processTable_15 rfl (lv_at hl 0 rfl) ?_
    refine va_get (D := (dC, dI)) (ci := 2) (v := .ref a4) (C := RX2) (T := TX2) (N := 7) hx hb hts in_X2 hown hK hP 0 rfl rfl 4 (by decide) (hts _ q78) (fun _ h9 => h9) rfl dX2_processTable_16 ?_
    refine lv_iconst (v := 0) hx hb dX2_processTable_19 (by decide) ?_
    refine bf_iald hx hb hK hP 5 1 rfl rfl dX2_processTable_20 0 rfl (Nat.le_of_ble_eq_true rfl) (Nat.le_of_ble_eq_true rfl) ?_
    refine lv_ixor hx hb dX2_processTable_21 ?_
    refine bf_topE (y := (bf_rn Tn Tn xn yn (2 * 0)).1 ^^^ Tn (2 * 0)) rfl ?_
    refine lv_istore_n (lv' := [(1, .int ((bf_rn Tn Tn xn yn (2 * 0)).1 ^^^ Tn (2 * 0))), (0, .ref h0), (2, .int yn), (3, .ref a1), (4, .int (nI 256)), (5, .int (nI (2 * i)))]) hx hb dX2_processTable_22 rfl hl (by decide) rfl (fun ls hl => ?_)
    refine lv_iconst (v := 1) hx hb dX2_processTable_23 (by decide) ?_
    refine lv_istore (lv' := [(6, .int 1), (1, .int ((bf_rn Tn Tn xn yn (2 * 0)).1 ^^^ Tn (2 * 0))), (0, .ref h0), (2, .int yn), (3, .ref a1), (4, .int (nI 256)), (5, .int (nI (2 * i)))]) hx hb dX2_processTable_24 hl (by decide) rfl (fun ls hl => ?_)
    have hl := lv_sub (l' := [(0, .ref h0), (1, .int ((bf_rn Tn Tn xn yn (2 * 0)).1 ^^^ Tn (2 * 0))), (2, .int yn), (3, .ref a1), (4, .int (nI 256)), (5, .int (nI (2 * i))), (6, .int 1)]) hl [2, 1, 3, 4, 5, 6, 0] rfl
    refine bf_while 8 (fun j H locs ls => va_P (dC, dI) vwCl [(h0, .inr (2, [.ref a0, .ref a1, .ref a2, .ref a3, .ref a4, .int en, wk])), (a0, .inl (cI, 256, .inl (fun k => Tn (18 + k)))), (a1, .inl (cI, 256, .inl (fun k => Tn (274 + k)))), (a2, .inl (cI, 256, .inl (fun k => Tn (530 + k)))), (a3, .inl (cI, 256, .inl (fun k => Tn (786 + k)))), (a4, .inl (cI, 18, .inl Tn))] H ∧ va_D A [(h0, .inr (2, [.ref a0, .ref a1, .ref a2, .ref a3, .ref a4, .int en, wk])), (a0, .inl (cI, 256, .inl (fun k => Tn (18 + k)))), (a1, .inl (cI, 256, .inl (fun k => Tn (274 + k)))), (a2, .inl (cI, 256, .inl (fun k => Tn (530 + k)))), (a3, .inl (cI, 256, .inl (fun k => Tn (786 + k)))), (a4, .inl (cI, 18, .inl Tn))] ∧ va_S A s.heap H locs ∧ lv_has ls 7 [(0, .ref h0), (1, .int ((bf_rn Tn Tn xn yn (2 * j)).1 ^^^ Tn (2 * j))), (2, .int (bf_rn Tn Tn xn yn (2 * j)).2), (3, .ref a1), (4, .int (nI 256)), (5, .int (nI (2 * i))), (6, .int (nI (2 * j + 1)))]) (fun _ => 0) (fun _ => 0) 0 (Nat.zero_le _) ⟨hP, hD, hS, hl⟩ (fun H locs ls hI => ?_) (fun j hj jh H locs ls hI => ?_)
    · obtain ⟨hP, hD, hS, hl⟩ := hI
      refine lv_iload hx hb dX2_processTable_26 (lv_at hl 6 rfl) ?_
      refine lv_bipush (v := 16) hx hb dX2_processTable_28 (by decide) ?_
      refine lv_icmp_ge (tgt := 73) hx hb dX2_processTable_30 (by decide) (fun _ => ?_) (fun h9 => absurd (nI_le (a := 16) (b := 2 * 8 + 1) (Nat.le_of_ble_eq_true rfl) (Nat.le_of_ble_eq_true rfl)) h9)
      refine lv_iload_n hx hb dX2_processTable_73 rfl (lv_at hl 2 rfl) ?_
      refine lv_aload_n hx hb dX2_processTable_74 rfl (lv_at hl 0 rfl) ?_
      refine va_get (D := (dC, dI)) (ci := 2) (v := .ref a4) (C := RX2) (T := TX2) (N := 7) hx hb hts in_X2 hown hK hP 0 rfl rfl 4 (by decide) (hts _ q78) (fun _ h9 => h9) rfl dX2_processTable_75 ?_
      refine lv_bipush (v := 17) hx hb dX2_processTable_78 (by decide) ?_
      refine bf_iald hx hb hK hP 5 1 rfl rfl dX2_processTable_80 17 rfl (Nat.le_of_ble_eq_true rfl) (Nat.le_of_ble_eq_true rfl) ?_
      refine lv_ixor hx hb dX2_processTable_81 ?_
      refine bf_topE (y := (bf_cr Tn Tn xn yn).1) rfl ?_
      refine lv_istore_n (lv' := [(2, .int ((bf_cr Tn Tn xn yn).1)), (0, .ref h0), (1, .int ((bf_rn Tn Tn xn yn (2 * 8)).1 ^^^ Tn (2 * 8))), (3, .ref a1), (4, .int (nI 256)), (5, .int (nI (2 * i))), (6, .int (nI (2 * 8 + 1)))]) hx hb dX2_processTable_82 rfl hl (by decide) rfl (fun ls hl => ?_)
      have hl := lv_sub (l' := [(0, .ref h0), (1, .int (bf_cr Tn Tn xn yn).2), (2, .int (bf_cr Tn Tn xn yn).1), (3, .ref a1), (4, .int (nI 256)), (5, .int (nI (2 * i)))]) hl [1, 2, 0, 3, 4, 5] rfl
      refine lv_aload_n hx hb dX2_processTable_83 rfl (lv_at hl 3 rfl) ?_
      refine lv_iload hx hb dX2_processTable_84 (lv_at hl 5 rfl) ?_
      refine lv_iload_n hx hb dX2_processTable_86 rfl (lv_at hl 2 rfl) ?_
      refine bf_iast hx hb hK hP hD hS 2 1 rfl rfl dX2_processTable_87 (2 * i) rfl (by omega) (Nat.le_of_ble_eq_true rfl) (fun H locs hP hD hS => ?_)
      have hP : va_P (dC, dI) vwCl [(h0, .inr (2, [.ref a0, .ref a1, .ref a2, .ref a3, .ref a4, .int en, wk])), (a0, .inl (cI, 256, .inl (fun k => Tn (18 + k)))), (a1, .inl (cI, 256, .inl (upd (fun k => Tn (274 + k)) (2 * i) ((bf_cr Tn Tn xn yn).1)))), (a2, .inl (cI, 256, .inl (fun k => Tn (530 + k)))), (a3, .inl (cI, 256, .inl (fun k => Tn (786 + k)))), (a4, .inl (cI, 18, .inl Tn))] H := hP
      have hD : va_D A [(h0, .inr (2, [.ref a0, .ref a1, .ref a2, .ref a3, .ref a4, .int en, wk])), (a0, .inl (cI, 256, .inl (fun k => Tn (18 + k)))), (a1, .inl (cI, 256, .inl (upd (fun k => Tn (274 + k)) (2 * i) ((bf_cr Tn Tn xn yn).1)))), (a2, .inl (cI, 256, .inl (fun k => Tn (530 + k)))), (a3, .inl (cI, 256, .inl (fun k => Tn (786 + k)))), (a4, .inl (cI, 18, .inl Tn))] := hD
      have hP := bf_upd_1 (wz := []) (by omega) hP
      have hD := bf_D.re (ws' := [(h0, .inr (2, [.ref a0, .ref a1, .ref a2, .ref a3, .ref a4, .int en, wk])), (a0, .inl (cI, 256, .inl (fun k => (upd Tn (274 + 2 * i) (bf_cr Tn Tn xn yn).1) (18 + k)))), (a1, .inl (cI, 256, .inl (fun k => (upd Tn (274 + 2 * i) (bf_cr Tn Tn xn yn).1) (274 + k)))), (a2, .inl (cI, 256, .inl (fun k => (upd Tn (274 + 2 * i) (bf_cr Tn Tn xn yn).1) (530 + k)))), (a3, .inl (cI, 256, .inl (fun k => (upd Tn (274 + 2 * i) (bf_cr Tn Tn xn yn).1) (786 + k)))), (a4, .inl (cI, 18, .inl (upd Tn (274 + 2 * i) (bf_cr Tn Tn xn yn).1)))]) hD [h0, a0, a1, a2, a3, a4] rfl rfl
      have hP : va_P (dC, dI) vwCl [(h0, .inr (2, [.ref a0, .ref a1, .ref a2, .ref a3, .ref a4, .int en, wk])), (a0, .inl (cI, 256, .inl (fun k => (upd Tn (274 + 2 * i) (bf_cr Tn Tn xn yn).1) (18 + k)))), (a1, .inl (cI, 256, .inl (fun k => (upd Tn (274 + 2 * i) (bf_cr Tn Tn xn yn).1) (274 + k)))), (a2, .inl (cI, 256, .inl (fun k => (upd Tn (274 + 2 * i) (bf_cr Tn Tn xn yn).1) (530 + k)))), (a3, .inl (cI, 256, .inl (fun k => (upd Tn (274 + 2 * i) (bf_cr Tn Tn xn yn).1) (786 + k)))), (a4, .inl (cI, 18, .inl (upd Tn (274 + 2 * i) (bf_cr Tn Tn xn yn).1)))] H := hP
      have hD : va_D A [(h0, .inr (2, [.ref a0, .ref a1, .ref a2, .ref a3, .ref a4, .int en, wk])), (a0, .inl (cI, 256, .inl (fun k => (upd Tn (274 + 2 * i) (bf_cr Tn Tn xn yn).1) (18 + k)))), (a1, .inl (cI, 256, .inl (fun k => (upd Tn (274 + 2 * i) (bf_cr Tn Tn xn yn).1) (274 + k)))), (a2, .inl (cI, 256, .inl (fun k => (upd Tn (274 + 2 * i) (bf_cr Tn Tn xn yn).1) (530 + k)))), (a3, .inl (cI, 256, .inl (fun k => (upd Tn (274 + 2 * i) (bf_cr Tn Tn xn yn).1) (786 + k)))), (a4, .inl (cI, 18, .inl (upd Tn (274 + 2 * i) (bf_cr Tn Tn xn yn).1)))] := hD
      refine lv_aload_n hx hb dX2_processTable_88 rfl (lv_at hl 3 rfl) ?_
      refine lv_iload hx hb dX2_processTable_89 (lv_at hl 5 rfl) ?_
      refine lv_iconst (v := 1) hx hb dX2_processTable_91 (by decide) ?_
      refine lv_iadd hx hb dX2_processTable_92 ?_
      refine lv_iload_n hx hb dX2_processTable_93 rfl (lv_at hl 1 rfl) ?_
      refine bf_iast hx hb hK hP hD hS 2 1 rfl rfl dX2_processTable_94 (2 * i + 1) (nI_add (2 * i) 1) (by omega) (Nat.le_of_ble_eq_true rfl) (fun H locs hP hD hS => ?_)
      have hP : va_P (dC, dI) vwCl [(h0, .inr (2, [.ref a0, .ref a1, .ref a2, .ref a3, .ref a4, .int en, wk])), (a0, .inl (cI, 256, .inl (fun k => (upd Tn (274 + 2 * i) (bf_cr Tn Tn xn yn).1) (18 + k)))), (a1, .inl (cI, 256, .inl (upd (fun k => (upd Tn (274 + 2 * i) (bf_cr Tn Tn xn yn).1) (274 + k)) (2 * i + 1) ((bf_cr Tn Tn xn yn).2)))), (a2, .inl (cI, 256, .inl (fun k => (upd Tn (274 + 2 * i) (bf_cr Tn Tn xn yn).1) (530 + k)))), (a3, .inl (cI, 256, .inl (fun k => (upd Tn (274 + 2 * i) (bf_cr Tn Tn xn yn).1) (786 + k)))), (a4, .inl (cI, 18, .inl (upd Tn (274 + 2 * i) (bf_cr Tn Tn xn yn).1)))] H := hP
      have hD : va_D A [(h0, .inr (2, [.ref a0, .ref a1, .ref a2, .ref a3, .ref a4, .int en, wk])), (a0, .inl (cI, 256, .inl (fun k => (upd Tn (274 + 2 * i) (bf_cr Tn Tn xn yn).1) (18 + k)))), (a1, .inl (cI, 256, .inl (upd (fun k => (upd Tn (274 + 2 * i) (bf_cr Tn Tn xn yn).1) (274 + k)) (2 * i + 1) ((bf_cr Tn Tn xn yn).2)))), (a2, .inl (cI, 256, .inl (fun k => (upd Tn (274 + 2 * i) (bf_cr Tn Tn xn yn).1) (530 + k)))), (a3, .inl (cI, 256, .inl (fun k => (upd Tn (274 + 2 * i) (bf_cr Tn Tn xn yn).1) (786 + k)))), (a4, .inl (cI, 18, .inl (upd Tn (274 + 2 * i) (bf_cr Tn Tn xn yn).1)))] := hD
      have hP := bf_upd_1 (wz := []) (by omega) hP
      have hD := bf_D.re (ws' := [(h0, .inr (2, [.ref a0, .ref a1, .ref a2, .ref a3, .ref a4, .int en, wk])), (a0, .inl (cI, 256, .inl (fun k => (upd (upd Tn (274 + 2 * i) (bf_cr Tn Tn xn yn).1) (274 + (2 * i + 1)) (bf_cr Tn Tn xn yn).2) (18 + k)))), (a1, .inl (cI, 256, .inl (fun k => (upd (upd Tn (274 + 2 * i) (bf_cr Tn Tn xn yn).1) (274 + (2 * i + 1)) (bf_cr Tn Tn xn yn).2) (274 + k)))), (a2, .inl (cI, 256, .inl (fun k => (upd (upd Tn (274 + 2 * i) (bf_cr Tn Tn xn yn).1) (274 + (2 * i + 1)) (bf_cr Tn Tn xn yn).2) (530 + k)))), (a3, .inl (cI, 256, .inl (fun k => (upd (upd Tn (274 + 2 * i) (bf_cr Tn Tn xn yn).1) (274 + (2 * i + 1)) (bf_cr Tn Tn xn yn).2) (786 + k)))), (a4, .inl (cI, 18, .inl (upd (upd Tn (274 + 2 * i) (bf_cr Tn Tn xn yn).1) (274 + (2 * i + 1)) (bf_cr Tn Tn xn yn).2)))]) hD [h0, a0, a1, a2, a3, a4] rfl rfl
      have hP : va_P (dC, dI) vwCl [(h0, .inr (2, [.ref a0, .ref a1, .ref a2, .ref a3, .ref a4, .int en, wk])), (a0, .inl (cI, 256, .inl (fun k => (upd (upd Tn (274 + 2 * i) (bf_cr Tn Tn xn yn).1) (274 + (2 * i + 1)) (bf_cr Tn Tn xn yn).2) (18 + k)))), (a1, .inl (cI, 256, .inl (fun k => (upd (upd Tn (274 + 2 * i) (bf_cr Tn Tn xn yn).1) (274 + (2 * i + 1)) (bf_cr Tn Tn xn yn).2) (274 + k)))), (a2, .inl (cI, 256, .inl (fun k => (upd (upd Tn (274 + 2 * i) (bf_cr Tn Tn xn yn).1) (274 + (2 * i + 1)) (bf_cr Tn Tn xn yn).2) (530 + k)))), (a3, .inl (cI, 256, .inl (fun k => (upd (upd Tn (274 + 2 * i) (bf_cr Tn Tn xn yn).1) (274 + (2 * i + 1)) (bf_cr Tn Tn xn yn).2) (786 + k)))), (a4, .inl (cI, 18, .inl (upd (upd Tn (274 + 2 * i) (bf_cr Tn Tn xn yn).1) (274 + (2 * i + 1)) (bf_cr Tn Tn xn yn).2)))] H := hP
      have hD : va_D A [(h0, .inr (2, [.ref a0, .ref a1, .ref a2, .ref a3, .ref a4, .int en, wk])), (a0, .inl (cI, 256, .inl (fun k => (upd (upd Tn (274 + 2 * i) (bf_cr Tn Tn xn yn).1) (274 + (2 * i + 1)) (bf_cr Tn Tn xn yn).2) (18 + k)))), (a1, .inl (cI, 256, .inl (fun k => (upd (upd Tn (274 + 2 * i) (bf_cr Tn Tn xn yn).1) (274 + (2 * i + 1)) (bf_cr Tn Tn xn yn).2) (274 + k)))), (a2, .inl (cI, 256, .inl (fun k => (upd (upd Tn (274 + 2 * i) (bf_cr Tn Tn xn yn).1) (274 + (2 * i + 1)) (bf_cr Tn Tn xn yn).2) (530 + k)))), (a3, .inl (cI, 256, .inl (fun k => (upd (upd Tn (274 + 2 * i) (bf_cr Tn Tn xn yn).1) (274 + (2 * i + 1)) (bf_cr Tn Tn xn yn).2) (786 + k)))), (a4, .inl (cI, 18, .inl (upd (upd Tn (274 + 2 * i) (bf_cr Tn Tn xn yn).1) (274 + (2 * i + 1)) (bf_cr Tn Tn xn yn).2)))] := hD
      refine lv_iload_n hx hb dX2_processTable_95 rfl (lv_at hl 1 rfl) ?_
      refine lv_istore_n (lv' := [(2, .int (bf_cr Tn Tn xn yn).2), (0, .ref h0), (1, .int (bf_cr Tn Tn xn yn).2), (3, .ref a1), (4, .int (nI 256)), (5, .int (nI (2 * i)))]) hx hb dX2_processTable_96 rfl hl (by decide) rfl (fun ls hl => ?_)
      refine lv_aload_n hx hb dX2_processTable_97 rfl (lv_at hl 3 rfl) ?_
      refine lv_iload hx hb dX2_processTable_98 (lv_at hl 5 rfl) ?_
      refine bf_iald hx hb hK hP 2 1 rfl rfl dX2_processTable_100 (2 * i) rfl (by omega) (Nat.le_of_ble_eq_true rfl) ?_
      refine bf_topE (y := (bf_cr Tn Tn xn yn).1) (by show upd (upd Tn (274 + 2 * i) _) (274 + (2 * i + 1)) _ (274 + 2 * i) = _; rw [pk_un (by omega), pk_us]) ?_
      refine lv_istore_n (lv' := [(1, .int ((bf_cr Tn Tn xn yn).1)), (2, .int (bf_cr Tn Tn xn yn).2), (0, .ref h0), (3, .ref a1), (4, .int (nI 256)), (5, .int (nI (2 * i)))]) hx hb dX2_processTable_101 rfl hl (by decide) rfl (fun ls hl => ?_)
      refine lv_iinc (v := nI (2 * (i + 1))) (lv' := [(5, .int (nI (2 * (i + 1)))), (1, .int ((bf_cr Tn Tn xn yn).1)), (2, .int (bf_cr Tn Tn xn yn).2), (0, .ref h0), (3, .ref a1), (4, .int (nI 256))]) hx hb dX2_processTable_102 hl (k := 5) rfl (by rw [show 2 * (i + 1) = 2 * i + 2 by omega]; exact nI_add (2 * i) 2) (by decide) rfl (fun ls hl => ?_)
      refine lv_goto (tgt := 7) hx hb dX2_processTable_105 (by decide) ?_
      subst hTn; subst hxn; subst hyn
      refine ih H locs ls ⟨?_, ?_, hS, ?_⟩
      · exact hP
      · exact hD
      · exact lv_sub hl [3, 1, 2, 4, 5, 0] rfl
    · obtain ⟨hP, hD, hS, hl⟩ := hI
      refine lv_iload hx hb dX2_processTable_26 (lv_at hl 6 rfl) ?_
      refine lv_bipush (v := 16) hx hb dX2_processTable_28 (by decide) ?_
      refine lv_icmp_ge (tgt := 73) hx hb dX2_processTable_30 (by decide) (fun h9 => absurd h9 (nI_ge (a := 2 * j + 1) (b := 16) (by omega) (Nat.le_of_ble_eq_true rfl))) (fun _ => ?_)
      refine lv_iload_n hx hb dX2_processTable_33 rfl (lv_at hl 2 rfl) ?_
      refine lv_aload_n hx hb dX2_processTable_34 rfl (lv_at hl 0 rfl) ?_
      refine lv_iload_n hx hb dX2_processTable_35 rfl (lv_at hl 1 rfl) ?_
      refine bf_calli (va_Run.run (va_runV (As := [.int ((bf_rn Tn Tn xn yn (2 * j)).1 ^^^ Tn (2 * j))]) (rest := [.int (bf_rn Tn Tn xn yn (2 * j)).2]) ⟨hx, hb, hml, hown, hts⟩ (met_X2_F l dC dI cB cI h0 a0 a1 a2 a3 a4 en wk Tn ((bf_rn Tn Tn xn yn (2 * j)).1 ^^^ Tn (2 * j))) (cwV 1 hts (lw_V q218 q220 qs4 q16 q221) rfl rfl rfl (by decide +kernel) ⟨Nat.le_of_ble_eq_true rfl, Nat.le_of_ble_eq_true rfl⟩) (bf_rdV hK hP [0, 1, 2, 3, 4] rfl (ci := 2) (q0 := 0) rfl rfl) rfl rfl hl.1 rfl (lv_room (Nat.le_of_ble_eq_true rfl)) dX2_processTable_36 ⟨Nat.le_of_ble_eq_true rfl, Nat.le_of_ble_eq_true rfl⟩)) ?_
      refine lv_aload_n hx hb dX2_processTable_39 rfl (lv_at hl 0 rfl) ?_
      refine va_get (D := (dC, dI)) (ci := 2) (v := .ref a4) (C := RX2) (T := TX2) (N := 7) hx hb hts in_X2 hown hK hP 0 rfl rfl 4 (by decide) (hts _ q78) (fun _ h9 => h9) rfl dX2_processTable_40 ?_
      refine lv_iload hx hb dX2_processTable_43 (lv_at hl 6 rfl) ?_
      refine bf_iald hx hb hK hP 5 1 rfl rfl dX2_processTable_45 (2 * j + 1) rfl (by omega) (Nat.le_of_ble_eq_true rfl) ?_
      refine lv_ixor hx hb dX2_processTable_46 ?_
      refine lv_ixor hx hb dX2_processTable_47 ?_
      refine bf_topE (y := (bf_rn Tn Tn xn yn (2 * j + 2)).2) (bf_two1 _ _ _ _ _) ?_
      refine lv_istore_n (lv' := [(2, .int ((bf_rn Tn Tn xn yn (2 * j + 2)).2)), (0, .ref h0), (1, .int ((bf_rn Tn Tn xn yn (2 * j)).1 ^^^ Tn (2 * j))), (3, .ref a1), (4, .int (nI 256)), (5, .int (nI (2 * i))), (6, .int (nI (2 * j + 1)))]) hx hb dX2_processTable_48 rfl hl (by decide) rfl (fun ls hl => ?_)
      refine lv_iload_n hx hb dX2_processTable_49 rfl (lv_at hl 2 rfl) ?_
      refine lv_aload_n hx hb dX2_processTable_50 rfl (lv_at hl 1 rfl) ?_
      refine lv_iload_n hx hb dX2_processTable_51 rfl (lv_at hl 0 rfl) ?_
      refine bf_calli (va_Run.run (va_runV (As := [.int ((bf_rn Tn Tn xn yn (2 * j + 2)).2)]) (rest := [.int ((bf_rn Tn Tn xn yn (2 * j)).1 ^^^ Tn (2 * j))]) ⟨hx, hb, hml, hown, hts⟩ (met_X2_F l dC dI cB cI h0 a0 a1 a2 a3 a4 en wk Tn ((bf_rn Tn Tn xn yn (2 * j + 2)).2)) (cwV 1 hts (lw_V q218 q220 qs4 q16 q221) rfl rfl rfl (by decide +kernel) ⟨Nat.le_of_ble_eq_true rfl, Nat.le_of_ble_eq_true rfl⟩) (bf_rdV hK hP [0, 1, 2, 3, 4] rfl (ci := 2) (q0 := 0) rfl rfl) rfl rfl hl.1 rfl (lv_room (Nat.le_of_ble_eq_true rfl)) dX2_processTable_52 ⟨Nat.le_of_ble_eq_true rfl, Nat.le_of_ble_eq_true rfl⟩)) ?_
      refine lv_aload_n hx hb dX2_processTable_55 rfl (lv_at hl 1 rfl) ?_
      refine va_get (D := (dC, dI)) (ci := 2) (v := .ref a4) (C := RX2) (T := TX2) (N := 7) hx hb hts in_X2 hown hK hP 0 rfl rfl 4 (by decide) (hts _ q78) (fun _ h9 => h9) rfl dX2_processTable_56 ?_
      refine lv_iload hx hb dX2_processTable_59 (lv_at hl 6 rfl) ?_
      refine lv_iconst (v := 1) hx hb dX2_processTable_61 (by decide) ?_
      refine lv_iadd hx hb dX2_processTable_62 ?_
      refine bf_iald hx hb hK hP 5 1 rfl rfl dX2_processTable_63 (2 * j + 2) (nI_add (2 * j + 1) 1) (by omega) (Nat.le_of_ble_eq_true rfl) ?_
      refine lv_ixor hx hb dX2_processTable_64 ?_
      refine lv_ixor hx hb dX2_processTable_65 ?_
      refine bf_topE (y := (bf_rn Tn Tn xn yn (2 * j + 2)).1 ^^^ Tn (2 * j + 2)) (bf_two2 _ _ _ _ _) ?_
      refine lv_istore_n (lv' := [(1, .int ((bf_rn Tn Tn xn yn (2 * j + 2)).1 ^^^ Tn (2 * j + 2))), (2, .int ((bf_rn Tn Tn xn yn (2 * j + 2)).2)), (0, .ref h0), (3, .ref a1), (4, .int (nI 256)), (5, .int (nI (2 * i))), (6, .int (nI (2 * j + 1)))]) hx hb dX2_processTable_66 rfl hl (by decide) rfl (fun ls hl => ?_)
      refine lv_iinc (v := nI (2 * (j + 1) + 1)) (lv' := [(6, .int (nI (2 * (j + 1) + 1))), (1, .int ((bf_rn Tn Tn xn yn (2 * j + 2)).1 ^^^ Tn (2 * j + 2))), (2, .int ((bf_rn Tn Tn xn yn (2 * j + 2)).2)), (0, .ref h0), (3, .ref a1), (4, .int (nI 256)), (5, .int (nI (2 * i)))]) hx hb dX2_processTable_67 hl (k := 6) rfl (by rw [show 2 * (j + 1) + 1 = 2 * j + 1 + 2 by omega]; exact nI_add (2 * j + 1) 2) (by decide) rfl (fun ls hl => ?_)
      refine lv_goto (tgt := 26) hx hb dX2_processTable_70 (by decide) ?_
      exact jh H locs ls ⟨hP, hD, hS, lv_sub hl [3, 1, 2, 4, 5, 6, 0] rfl⟩
set_option maxHeartbeats 4000000 in
set_option maxRecDepth 100000 in
/-- processTable(x, y, table 2): its 128 pairs are locked anew -/
theorem met_X2_processTable_2 (l : Launch) (dC : Nat → ClassId) (dI : Nat → Nat → Nat) (cB cI : ClassId) (sz : Nat) (h0 a0 a1 a2 a3 a4 : Nat) (en : Int32) (wk : Value) (T : Nat → Int32) (x y : Int32) : Met l yX2_processTable (ws_ yX2_processTable cX2_processTable 7 none) ({ frames := 1, cells := 0, slots := 0, locals := 21 }) (va_Pc [.ref h0, .int x, .int y, .ref a2] (bfPre (dC, dI) cB cI [(h0, .inr (2, [.ref a0, .ref a1, .ref a2, .ref a3, .ref a4, .int en, wk])), (a0, .inl (cI, 256, .inl (fun k => T (18 + k)))), (a1, .inl (cI, 256, .inl (fun k => T (274 + k)))), (a2, .inl (cI, 256, .inl (fun k => T (530 + k)))), (a3, .inl (cI, 256, .inl (fun k => T (786 + k)))), (a4, .inl (cI, 18, .inl T))] sz)) (va_Qv (fun _ : Unit => True) (fun _ t => bfPost (dC, dI) [(h0, .inr (2, [.ref a0, .ref a1, .ref a2, .ref a3, .ref a4, .int en, wk])), (a0, .inl (cI, 256, .inl (fun k => (bf_st T x y 530 128).1 (18 + k)))), (a1, .inl (cI, 256, .inl (fun k => (bf_st T x y 530 128).1 (274 + k)))), (a2, .inl (cI, 256, .inl (fun k => (bf_st T x y 530 128).1 (530 + k)))), (a3, .inl (cI, 256, .inl (fun k => (bf_st T x y 530 128).1 (786 + k)))), (a4, .inl (cI, 18, .inl (bf_st T x y 530 128).1))] (va_A [(h0, .inr (2, [.ref a0, .ref a1, .ref a2, .ref a3, .ref a4, .int en, wk])), (a0, .inl (cI, 256, .inl (fun k => T (18 + k)))), (a1, .inl (cI, 256, .inl (fun k => T (274 + k)))), (a2, .inl (cI, 256, .inl (fun k => T (530 + k)))), (a3, .inl (cI, 256, .inl (fun k => T (786 + k)))), (a4, .inl (cI, 18, .inl T))] sz) t) (va_A [(h0, .inr (2, [.ref a0, .ref a1, .ref a2, .ref a3, .ref a4, .int en, wk])), (a0, .inl (cI, 256, .inl (fun k => T (18 + k)))), (a1, .inl (cI, 256, .inl (fun k => T (274 + k)))), (a2, .inl (cI, 256, .inl (fun k => T (530 + k)))), (a3, .inl (cI, 256, .inl (fun k => T (786 + k)))), (a4, .inl (cI, 18, .inl T))] sz)) 0 0 (va_A [(h0, .inr (2, [.ref a0, .ref a1, .ref a2, .ref a3, .ref a4, .int en, wk])), (a0, .inl (cI, 256, .inl (fun k => T (18 + k)))), (a1, .inl (cI, 256, .inl (fun k => T (274 + k)))), (a2, .inl (cI, 256, .inl (fun k => T (530 + k)))), (a3, .inl (cI, 256, .inl (fun k => T (786 + k)))), (a4, .inl (cI, 18, .inl T))] sz) := by
  refine Met.ofW (cc := cX2_processTable) (maxL := 7) (ret := none) (by decide) rfl ?_
  intro p e s m args below meth c s₁ hBo hml hv
  obtain ⟨rfl, hsz, hP, hK, hD0⟩ := hv
  have hx := hBo.exec
  have hb := hBo.bytes
  have hr := hBo.returns
  have hts := atoms_spec (ws := (ws_ yX2_processTable cX2_processTable 7 none)) hBo.pre
  have hts : ∀ w ∈ lw_all, w.before _ s = true := fun w h => hts w (List.mem_cons_of_mem _ h)
  have hown : s.vm.findClass RX2 = some m.cls := findClass_of_methodNamed hBo.named
  have hlocks := hBo.notSynchronized
  subst hsz
  have hD := hD0.self (sz := s.heap.size)
  generalize hAe : va_A [(h0, .inr (2, [.ref a0, .ref a1, .ref a2, .ref a3, .ref a4, .int en, wk])), (a0, .inl (cI, 256, .inl (fun k => T (18 + k)))), (a1, .inl (cI, 256, .inl (fun k => T (274 + k)))), (a2, .inl (cI, 256, .inl (fun k => T (530 + k)))), (a3, .inl (cI, 256, .inl (fun k => T (786 + k)))), (a4, .inl (cI, 18, .inl T))] s.heap.size = A at hD ⊢
  have hA : ∀ q : Nat, s.heap.size ≤ q → A q := fun q h => by rw [← hAe]; exact Or.inr h
  have hS : va_S A s.heap s.heap [] := va_S.rf
  have hl := lv_entry ([.ref h0, .int x, .int y, .ref a2]) (n := 7) (Nat.le_of_ble_eq_true rfl)
  rw [lg_entry_eq]
  generalize (lg_sl ([.ref h0, .int x, .int y, .ref a2]) ++ List.replicate (7 - (lg_sl ([.ref h0, .int x, .int y, .ref a2])).length) Slot.unset).toArray = ls at hl ⊢
  have hl : lv_has ls 7 [(0, .ref h0), (1, .int x), (2, .int y), (3, .ref a2)] := hl
  refine lv_aload_n hx hb dX2_processTable_0 rfl (lv_at hl 3 rfl) ?_
  refine va_alen (v := nI 256) hx hb hK hP 3 1 rfl rfl rfl dX2_processTable_1 ?_
  refine lv_istore (lv' := [(4, .int (nI 256)), (0, .ref h0), (1, .int x), (2, .int y), (3, .ref a2)]) hx hb dX2_processTable_2 hl (by decide) rfl (fun ls hl => ?_)
  refine lv_iconst (v := 0) hx hb dX2_processTable_4 (by decide) ?_
  refine lv_istore (lv' := [(5, .int 0), (4, .int (nI 256)), (0, .ref h0), (1, .int x), (2, .int y), (3, .ref a2)]) hx hb dX2_processTable_5 hl (by decide) rfl (fun ls hl => ?_)
  have hl := lv_sub (l' := [(0, .ref h0), (1, .int x), (2, .int y), (3, .ref a2), (4, .int (nI 256)), (5, .int 0)]) hl [2, 3, 4, 5, 1, 0] rfl
  refine bf_while 128 (fun i H locs ls => va_P (dC, dI) vwCl [(h0, .inr (2, [.ref a0, .ref a1, .ref a2, .ref a3, .ref a4, .int en, wk])), (a0, .inl (cI, 256, .inl (fun k => (bf_st T x y 530 (i)).1 (18 + k)))), (a1, .inl (cI, 256, .inl (fun k => (bf_st T x y 530 (i)).1 (274 + k)))), (a2, .inl (cI, 256, .inl (fun k => (bf_st T x y 530 (i)).1 (530 + k)))), (a3, .inl (cI, 256, .inl (fun k => (bf_st T x y 530 (i)).1 (786 + k)))), (a4, .inl (cI, 18, .inl (bf_st T x y 530 (i)).1))] H ∧ va_D A [(h0, .inr (2, [.ref a0, .ref a1, .ref a2, .ref a3, .ref a4, .int en, wk])), (a0, .inl (cI, 256, .inl (fun k => (bf_st T x y 530 (i)).1 (18 + k)))), (a1, .inl (cI, 256, .inl (fun k => (bf_st T x y 530 (i)).1 (274 + k)))), (a2, .inl (cI, 256, .inl (fun k => (bf_st T x y 530 (i)).1 (530 + k)))), (a3, .inl (cI, 256, .inl (fun k => (bf_st T x y 530 (i)).1 (786 + k)))), (a4, .inl (cI, 18, .inl (bf_st T x y 530 (i)).1))] ∧ va_S A s.heap H locs ∧ lv_has ls 7 [(0, .ref h0), (1, .int (bf_st T x y 530 (i)).2.1), (2, .int (bf_st T x y 530 (i)).2.2), (3, .ref a2), (4, .int (nI 256)), (5, .int (nI (2 * i)))]) (fun _ => 0) (fun _ => 0) 0 (Nat.zero_le _) ⟨hP, hD, hS, hl⟩ (fun H locs ls hI => ?_) (fun i hi ih H locs ls hI => ?_)
  · obtain ⟨hP, hD, hS, hl⟩ := hI
    refine lv_iload hx hb dX2_processTable_7 (lv_at hl 5 rfl) ?_
    refine lv_iload hx hb dX2_processTable_9 (lv_at hl 4 rfl) ?_
    refine lv_icmp_ge (tgt := 108) hx hb dX2_processTable_11 (by decide) (fun _ => ?_) (fun h9 => absurd (nI_le (Nat.le_of_ble_eq_true rfl) (Nat.le_of_ble_eq_true rfl)) h9)
    exact W.vret hx hb hr (fun t ht hW => ⟨⟨(), rfl, trivial, by rw [ht]; exact hP, hD⟩, hS.F ht⟩) hS.2.2 dX2_processTable_108
  · obtain ⟨hP, hD, hS, hl⟩ := hI
    generalize hTn : (bf_st T x y 530 i).1 = Tn at hP hD
    generalize hxn : (bf_st T x y 530 i).2.1 = xn at hl
    generalize hyn : (bf_st T x y 530 i).2.2 = yn at hl
    refine lv_iload hx hb dX2_processTable_7 (lv_at hl 5 rfl) ?_
    refine lv_iload hx hb dX2_processTable_9 (lv_at hl 4 rfl) ?_
    refine lv_icmp_ge (tgt := 108) hx hb dX2_processTable_11 (by decide) (fun h9 => absurd h9 (nI_ge (by omega) (Nat.le_of_ble_eq_true rfl))) (fun _ => ?_)
    refine lv_iload_n hx hb dX2_processTable_14 rfl (lv_at hl 1 rfl) ?_
    refine lv_aload_n hx hb dX2_processTable_15 rfl (lv_at hl 0 rfl) ?_
    refine va_get (D := (dC, dI)) (ci := 2) (v := .ref a4) (C := RX2) (T := TX2) (N := 7) hx hb hts in_X2 hown hK hP 0 rfl rfl 4 (by decide) (hts _ q78) (fun _ h9 => h9) rfl dX2_processTable_16 ?_
    refine lv_iconst (v := 0) hx hb dX2_processTable_19 (by decide) ?_
    refine bf_iald hx hb hK hP 5 1 rfl rfl dX2_processTable_20 0 rfl (Nat.le_of_ble_eq_true rfl) (Nat.le_of_ble_eq_true rfl) ?_
    refine lv_ixor hx hb dX2_processTable_21 ?_
    refine bf_topE (y := (bf_rn Tn Tn xn yn (2 * 0)).1 ^^^ Tn (2 * 0)) rfl ?_
    refine lv_istore_n (lv' := [(1, .int ((bf_rn Tn Tn xn yn (2 * 0)).1 ^^^ Tn (2 * 0))), (0, .ref h0), (2, .int yn), (3, .ref a2), (4, .int (nI 256)), (5, .int (nI (2 * i)))]) hx hb dX2_processTable_22 rfl hl (by decide) rfl (fun ls hl => ?_)
    refine lv_iconst (v := 1) hx hb dX2_processTable_23 (by decide) ?_
    refine lv_istore (lv' := [(6, .int 1), (1, .int ((bf_rn Tn Tn xn yn (2 * 0)).1 ^^^ Tn (2 * 0))), (0, .ref h0), (2, .int yn), (3, .ref a2), (4, .int (nI 256)), (5, .int (nI (2 * i)))]) hx hb dX2_processTable_24 hl (by decide) rfl (fun ls hl => ?_)
    have hl := lv_sub (l' := [(0, .ref h0), (1, .int ((bf_rn Tn Tn xn yn (2 * 0)).1 ^^^ Tn (2 * 0))), (2, .int yn), (3, .ref a2), (4, .int (nI 256)), (5, .int (nI (2 * i))), (6, .int 1)]) hl [2, 1, 3, 4, 5, 6, 0] rfl
    refine bf_while 8 (fun j H locs ls => va_P (dC, dI) vwCl [(h0, .inr (2, [.ref a0, .ref a1, .ref a2, .ref a3, .ref a4, .int en, wk])), (a0, .inl (cI, 256, .inl (fun k => Tn (18 + k)))), (a1, .inl (cI, 256, .inl (fun k => Tn (274 + k)))), (a2, .inl (cI, 256, .inl (fun k => Tn (530 + k)))), (a3, .inl (cI, 256, .inl (fun k => Tn (786 + k)))), (a4, .inl (cI, 18, .inl Tn))] H ∧ va_D A [(h0, .inr (2, [.ref a0, .ref a1, .ref a2, .ref a3, .ref a4, .int en, wk])), (a0, .inl (cI, 256, .inl (fun k => Tn (18 + k)))), (a1, .inl (cI, 256, .inl (fun k => Tn (274 + k)))), (a2, .inl (cI, 256, .inl (fun k => Tn (530 + k)))), (a3, .inl (cI, 256, .inl (fun k => Tn (786 + k)))), (a4, .inl (cI, 18, .inl Tn))] ∧ va_S A s.heap H locs ∧ lv_has ls 7 [(0, .ref h0), (1, .int ((bf_rn Tn Tn xn yn (2 * j)).1 ^^^ Tn (2 * j))), (2, .int (bf_rn Tn Tn xn yn (2 * j)).2), (3, .ref a2), (4, .int (nI 256)), (5, .int (nI (2 * i))), (6, .int (nI (2 * j + 1)))]) (fun _ => 0) (fun _ => 0) 0 (Nat.zero_le _) ⟨hP, hD, hS, hl⟩ (fun H locs ls hI => ?_) (fun j hj jh H locs ls hI => ?_)
    · obtain ⟨hP, hD, hS, hl⟩ := hI
      refine lv_iload hx hb dX2_processTable_26 (lv_at hl 6 rfl) ?_
      refine lv_bipush (v := 16) hx hb dX2_processTable_28 (by decide) ?_
      refine lv_icmp_ge (tgt := 73) hx hb dX2_processTable_30 (by decide) (fun _ => ?_) (fun h9 => absurd (nI_le (a := 16) (b := 2 * 8 + 1) (Nat.le_of_ble_eq_true rfl) (Nat.le_of_ble_eq_true rfl)) h9)
      refine lv_iload_n hx hb dX2_processTable_73 rfl (lv_at hl 2 rfl) ?_
      refine lv_aload_n hx hb dX2_processTable_74 rfl (lv_at hl 0 rfl) ?_
      refine va_get (D := (dC, dI)) (ci := 2) (v := .ref a4) (C := RX2) (T := TX2) (N := 7) hx hb hts in_X2 hown hK hP 0 rfl rfl 4 (by decide) (hts _ q78) (fun _ h9 => h9) rfl dX2_processTable_75 ?_
      refine lv_bipush (v := 17) hx hb dX2_processTable_78 (by decide) ?_
      refine bf_iald hx hb hK hP 5 1 rfl rfl dX2_processTable_80 17 rfl (Nat.le_of_ble_eq_true rfl) (Nat.le_of_ble_eq_true rfl) ?_
      refine lv_ixor hx hb dX2_processTable_81 ?_
      refine bf_topE (y := (bf_cr Tn Tn xn yn).1) rfl ?_
      refine lv_istore_n (lv' := [(2, .int ((bf_cr Tn Tn xn yn).1)), (0, .ref h0), (1, .int ((bf_rn Tn Tn xn yn (2 * 8)).1 ^^^ Tn (2 * 8))), (3, .ref a2), (4, .int (nI 256)), (5, .int (nI (2 * i))), (6, .int (nI (2 * 8 + 1)))]) hx hb dX2_processTable_82 rfl hl (by decide) rfl (fun ls hl => ?_)
      have hl := lv_sub (l' := [(0, .ref h0), (1, .int (bf_cr Tn Tn xn yn).2), (2, .int (bf_cr Tn Tn xn yn).1), (3, .ref a2), (4, .int (nI 256)), (5, .int (nI (2 * i)))]) hl [1, 2, 0, 3, 4, 5] rfl
      refine lv_aload_n hx hb dX2_processTable_83 rfl (lv_at hl 3 rfl) ?_
      refine lv_iload hx hb dX2_processTable_84 (lv_at hl 5 rfl) ?_
      refine lv_iload_n hx hb dX2_processTable_86 rfl (lv_at hl 2 rfl) ?_
      refine bf_iast hx hb hK hP hD hS 3 1 rfl rfl dX2_processTable_87 (2 * i) rfl (by omega) (Nat.le_of_ble_eq_true rfl) (fun H locs hP hD hS => ?_)
      have hP : va_P (dC, dI) vwCl [(h0, .inr (2, [.ref a0, .ref a1, .ref a2, .ref a3, .ref a4, .int en, wk])), (a0, .inl (cI, 256, .inl (fun k => Tn (18 + k)))), (a1, .inl (cI, 256, .inl (fun k => Tn (274 + k)))), (a2, .inl (cI, 256, .inl (upd (fun k => Tn (530 + k)) (2 * i) ((bf_cr Tn Tn xn yn).1)))), (a3, .inl (cI, 256, .inl (fun k => Tn (786 + k)))), (a4, .inl (cI, 18, .inl Tn))] H := hP
      have hD : va_D A [(h0, .inr (2, [.ref a0, .ref a1, .ref a2, .ref a3, .ref a4, .int en, wk])), (a0, .inl (cI, 256, .inl (fun k => Tn (18 + k)))), (a1, .inl (cI, 256, .inl (fun k => Tn (274 + k)))), (a2, .inl (cI, 256, .inl (upd (fun k => Tn (530 + k)) (2 * i) ((bf_cr Tn Tn xn yn).1)))), (a3, .inl (cI, 256, .inl (fun k => Tn (786 + k)))), (a4, .inl (cI, 18, .inl Tn))] := hD
      have hP := bf_upd_2 (wz := []) (by omega) hP
      have hD := bf_D.re (ws' := [(h0, .inr (2, [.ref a0, .ref a1, .ref a2, .ref a3, .ref a4, .int en, wk])), (a0, .inl (cI, 256, .inl (fun k => (upd Tn (530 + 2 * i) (bf_cr Tn Tn xn yn).1) (18 + k)))), (a1, .inl (cI, 256, .inl (fun k => (upd Tn (530 + 2 * i) (bf_cr Tn Tn xn yn).1) (274 + k)))), (a2, .inl (cI, 256, .inl (fun k => (upd Tn (530 + 2 * i) (bf_cr Tn Tn xn yn).1) (530 + k)))), (a3, .inl (cI, 256, .inl (fun k => (upd Tn (530 + 2 * i) (bf_cr Tn Tn xn yn).1) (786 + k)))), (a4, .inl (cI, 18, .inl (upd Tn (530 + 2 * i) (bf_cr Tn Tn xn yn).1)))]) hD [h0, a0, a1, a2, a3, a4] rfl rfl
      have hP : va_P (dC, dI) vwCl [(h0, .inr (2, [.ref a0, .ref a1, .ref a2, .ref a3, .ref a4, .int en, wk])), (a0, .inl (cI, 256, .inl (fun k => (upd Tn (530 + 2 * i) (bf_cr Tn Tn xn yn).1) (18 + k)))), (a1, .inl (cI, 256, .inl (fun k => (upd Tn (530 + 2 * i) (bf_cr Tn Tn xn yn).1) (274 + k)))), (a2, .inl (cI, 256, .inl (fun k => (upd Tn (530 + 2 * i) (bf_cr Tn Tn xn yn).1) (530 + k)))), (a3, .inl (cI, 256, .inl (fun k => (upd Tn (530 + 2 * i) (bf_cr Tn Tn xn yn).1) (786 + k)))), (a4, .inl (cI, 18, .inl (upd Tn (530 + 2 * i) (bf_cr Tn Tn xn yn).1)))] H := hP
      have hD : va_D A [(h0, .inr (2, [.ref a0, .ref a1, .ref a2, .ref a3, .ref a4, .int en, wk])), (a0, .inl (cI, 256, .inl (fun k => (upd Tn (530 + 2 * i) (bf_cr Tn Tn xn yn).1) (18 + k)))), (a1, .inl (cI, 256, .inl (fun k => (upd Tn (530 + 2 * i) (bf_cr Tn Tn xn yn).1) (274 + k)))), (a2, .inl (cI, 256, .inl (fun k => (upd Tn (530 + 2 * i) (bf_cr Tn Tn xn yn).1) (530 + k)))), (a3, .inl (cI, 256, .inl (fun k => (upd Tn (530 + 2 * i) (bf_cr Tn Tn xn yn).1) (786 + k)))), (a4, .inl (cI, 18, .inl (upd Tn (530 + 2 * i) (bf_cr Tn Tn xn yn).1)))] := hD
      refine lv_aload_n hx hb dX2_processTable_88 rfl (lv_at hl 3 rfl) ?_
      refine lv_iload hx hb dX2_processTable_89 (lv_at hl 5 rfl) ?_
      refine lv_iconst (v := 1) hx hb dX2_processTable_91 (by decide) ?_
      refine lv_iadd hx hb dX2_processTable_92 ?_
      refine lv_iload_n hx hb dX2_processTable_93 rfl (lv_at hl 1 rfl) ?_
      refine bf_iast hx hb hK hP hD hS 3 1 rfl rfl dX2_processTable_94 (2 * i + 1) (nI_add (2 * i) 1) (by omega) (Nat.le_of_ble_eq_true rfl) (fun H locs hP hD hS => ?_)
      have hP : va_P (dC, dI) vwCl [(h0, .inr (2, [.ref a0, .ref a1, .ref a2, .ref a3, .ref a4, .int en, wk])), (a0, .inl (cI, 256, .inl (fun k => (upd Tn (530 + 2 * i) (bf_cr Tn Tn xn yn).1) (18 + k)))), (a1, .inl (cI, 256, .inl (fun k => (upd Tn (530 + 2 * i) (bf_cr Tn Tn xn yn).1) (274 + k)))), (a2, .inl (cI, 256, .inl (upd (fun k => (upd Tn (530 + 2 * i) (bf_cr Tn Tn xn yn).1) (530 + k)) (2 * i + 1) ((bf_cr Tn Tn xn yn).2)))), (a3, .inl (cI, 256, .inl (fun k => (upd Tn (530 + 2 * i) (bf_cr Tn Tn xn yn).1) (786 + k)))), (a4, .inl (cI, 18, .inl (upd Tn (530 + 2 * i) (bf_cr Tn Tn xn yn).1)))] H := hP
      have hD : va_D A [(h0, .inr (2, [.ref a0, .ref a1, .ref a2, .ref a3, .ref a4, .int en, wk])), (a0, .inl (cI, 256, .inl (fun k => (upd Tn (530 + 2 * i) (bf_cr Tn Tn xn yn).1) (18 + k)))), (a1, .inl (cI, 256, .inl (fun k => (upd Tn (530 + 2 * i) (bf_cr Tn Tn xn yn).1) (274 + k)))), (a2, .inl (cI, 256, .inl (upd (fun k => (upd Tn (530 + 2 * i) (bf_cr Tn Tn xn yn).1) (530 + k)) (2 * i + 1) ((bf_cr Tn Tn xn yn).2)))), (a3, .inl (cI, 256, .inl (fun k => (upd Tn (530 + 2 * i) (bf_cr Tn Tn xn yn).1) (786 + k)))), (a4, .inl (cI, 18, .inl (upd Tn (530 + 2 * i) (bf_cr Tn Tn xn yn).1)))] := hD
      have hP := bf_upd_2 (wz := []) (by omega) hP
      have hD := bf_D.re (ws' := [(h0, .inr (2, [.ref a0, .ref a1, .ref a2, .ref a3, .ref a4, .int en, wk])), (a0, .inl (cI, 256, .inl (fun k => (upd (upd Tn (530 + 2 * i) (bf_cr Tn Tn xn yn).1) (530 + (2 * i + 1)) (bf_cr Tn Tn xn yn).2) (18 + k)))), (a1, .inl (cI, 256, .inl (fun k => (upd (upd Tn (530 + 2 * i) (bf_cr Tn Tn xn yn).1) (530 + (2 * i + 1)) (bf_cr Tn Tn xn yn).2) (274 + k)))), (a2, .inl (cI, 256, .inl (fun k => (upd (upd Tn (530 + 2 * i) (bf_cr Tn Tn xn yn).1) (530 + (2 * i + 1)) (bf_cr Tn Tn xn yn).2) (530 + k)))), (a3, .inl (cI, 256, .inl (fun k => (upd (upd Tn (530 + 2 * i) (bf_cr Tn Tn xn yn).1) (530 + (2 * i + 1)) (bf_cr Tn Tn xn yn).2) (786 + k)))), (a4, .inl (cI, 18, .inl (upd (upd Tn (530 + 2 * i) (bf_cr Tn Tn xn yn).1) (530 + (2 * i + 1)) (bf_cr Tn Tn xn yn).2)))]) hD [h0, a0, a1, a2, a3, a4] rfl rfl
      have hP : va_P (dC, dI) vwCl [(h0, .inr (2, [.ref a0, .ref a1, .ref a2, .ref a3, .ref a4, .int en, wk])), (a0, .inl (cI, 256, .inl (fun k => (upd (upd Tn (530 + 2 * i) (bf_cr Tn Tn xn yn).1) (530 + (2 * i + 1)) (bf_cr Tn Tn xn yn).2) (18 + k)))), (a1, .inl (cI, 256, .inl (fun k => (upd (upd Tn (530 + 2 * i) (bf_cr Tn Tn xn yn).1) (530 + (2 * i + 1)) (bf_cr Tn Tn xn yn).2) (274 + k)))), (a2, .inl (cI, 256, .inl (fun k => (upd (upd Tn (530 + 2 * i) (bf_cr Tn Tn xn yn).1) (530 + (2 * i + 1)) (bf_cr Tn Tn xn yn).2) (530 + k)))), (a3, .inl (cI, 256, .inl (fun k => (upd (upd Tn (530 + 2 * i) (bf_cr Tn Tn xn yn).1) (530 + (2 * i + 1)) (bf_cr Tn Tn xn yn).2) (786 + k)))), (a4, .inl (cI, 18, .inl (upd (upd Tn (530 + 2 * i) (bf_cr Tn Tn xn yn).1) (530 + (2 * i + 1)) (bf_cr Tn Tn xn yn).2)))] H := hP
      have hD : va_D A [(h0, .inr (2, [.ref a0, .ref a1, .ref a2, .ref a3, .ref a4, .int en, wk])), (a0, .inl (cI, 256, .inl (fun k => (upd (upd Tn (530 + 2 * i) (bf_cr Tn Tn xn yn).1) (530 + (2 * i + 1)) (bf_cr Tn Tn xn yn).2) (18 + k)))), (a1, .inl (cI, 256, .inl (fun k => (upd (upd Tn (530 + 2 * i) (bf_cr Tn Tn xn yn).1) (530 + (2 * i + 1)) (bf_cr Tn Tn xn yn).2) (274 + k)))), (a2, .inl (cI, 256, .inl (fun k => (upd (upd Tn (530 + 2 * i) (bf_cr Tn Tn xn yn).1) (530 + (2 * i + 1)) (bf_cr Tn Tn xn yn).2) (530 + k)))), (a3, .inl (cI, 256, .inl (fun k => (upd (upd Tn (530 + 2 * i) (bf_cr Tn Tn xn yn).1) (530 + (2 * i + 1)) (bf_cr Tn Tn xn yn).2) (786 + k)))), (a4, .inl (cI, 18, .inl (upd (upd Tn (530 + 2 * i) (bf_cr Tn Tn xn yn).1) (530 + (2 * i + 1)) (bf_cr Tn Tn xn yn).2)))] := hD
      refine lv_iload_n hx hb dX2_processTable_95 rfl (lv_at hl 1 rfl) ?_
      refine lv_istore_n (lv' := [(2, .int (bf_cr Tn Tn xn yn).2), (0, .ref h0), (1, .int (bf_cr Tn Tn xn yn).2), (3, .ref a2), (4, .int (nI 256)), (5, .int (nI (2 * i)))]) hx hb dX2_processTable_96 rfl hl (by decide) rfl (fun ls hl => ?_)
      refine lv_aload_n hx hb dX2_processTable_97 rfl (lv_at hl 3 rfl) ?_
      refine lv_iload hx hb dX2_processTable_98 (lv_at hl 5 rfl) ?_
      refine bf_iald hx hb hK hP 3 1 rfl rfl dX2_processTable_100 (2 * i) rfl (by omega) (Nat.le_of_ble_eq_true rfl) ?_
      refine bf_topE (y := (bf_cr Tn Tn xn yn).1) (by show upd (upd Tn (530 + 2 * i) _) (530 + (2 * i + 1)) _ (530 + 2 * i) = _; rw [pk_un (by omega), pk_us]) ?_
      refine lv_istore_n (lv' := [(1, .int ((bf_cr Tn Tn xn yn).1)), (2, .int (bf_cr Tn Tn xn yn).2), (0, .ref h0), (3, .ref a2), (4, .int (nI 256)), (5, .int (nI (2 * i)))]) hx hb dX2_processTable_101 rfl hl (by decide) rfl (fun ls hl => ?_)
      refine lv_iinc (v := nI (2 * (i + 1))) (lv' := [(5, .int (nI (2 * (i + 1)))), (1, .int ((bf_cr Tn Tn xn yn).1)), (2, .int (bf_cr Tn Tn xn yn).2), (0, .ref h0), (3, .ref a2), (4, .int (nI 256))]) hx hb dX2_processTable_102 hl (k := 5) rfl (by rw [show 2 * (i + 1) = 2 * i + 2 by omega]; exact nI_add (2 * i) 2) (by decide) rfl (fun ls hl => ?_)
      refine lv_goto (tgt := 7) hx hb dX2_processTable_105 (by decide) ?_
      subst hTn; subst hxn; subst hyn
      refine ih H locs ls ⟨?_, ?_, hS, ?_⟩
      · exact hP
      · exact hD
      · exact lv_sub hl [3, 1, 2, 4, 5, 0] rfl
    · obtain ⟨hP, hD, hS, hl⟩ := hI
      refine lv_iload hx hb dX2_processTable_26 (lv_at hl 6 rfl) ?_
      refine lv_bipush (v := 16) hx hb dX2_processTable_28 (by decide) ?_
      refine lv_icmp_ge (tgt := 73) hx hb dX2_processTable_30 (by decide) (fun h9 => absurd h9 (nI_ge (a := 2 * j + 1) (b := 16) (by omega) (Nat.le_of_ble_eq_true rfl))) (fun _ => ?_)
      refine lv_iload_n hx hb dX2_processTable_33 rfl (lv_at hl 2 rfl) ?_
      refine lv_aload_n hx hb dX2_processTable_34 rfl (lv_at hl 0 rfl) ?_
      refine lv_iload_n hx hb dX2_processTable_35 rfl (lv_at hl 1 rfl) ?_
      refine bf_calli (va_Run.run (va_runV (As := [.int ((bf_rn Tn Tn xn yn (2 * j)).1 ^^^ Tn (2 * j))]) (rest := [.int (bf_rn Tn Tn xn yn (2 * j)).2]) ⟨hx, hb, hml, hown, hts⟩ (met_X2_F l dC dI cB cI h0 a0 a1 a2 a3 a4 en wk Tn ((bf_rn Tn Tn xn yn (2 * j)).1 ^^^ Tn (2 * j))) (cwV 1 hts (lw_V q218 q220 qs4 q16 q221) rfl rfl rfl (by decide +kernel) ⟨Nat.le_of_ble_eq_true rfl, Nat.le_of_ble_eq_true rfl⟩) (bf_rdV hK hP [0, 1, 2, 3, 4] rfl (ci := 2) (q0 := 0) rfl rfl) rfl rfl hl.1 rfl (lv_room (Nat.le_of_ble_eq_true rfl)) dX2_processTable_36 ⟨Nat.le_of_ble_eq_true rfl, Nat.le_of_ble_eq_true rfl⟩)) ?_
      refine lv_aload_n hx hb dX2_processTable_39 rfl (lv_at hl 0 rfl) ?_
      refine va_get (D := (dC, dI)) (ci := 2) (v := .ref a4) (C := RX2) (T := TX2) (N := 7) hx hb hts in_X2 hown hK hP 0 rfl rfl 4 (by decide) (hts _ q78) (fun _ h9 => h9) rfl dX2_processTable_40 ?_
      refine lv_iload hx hb dX2_processTable_43 (lv_at hl 6 rfl) ?_
      refine bf_iald hx hb hK hP 5 1 rfl rfl dX2_processTable_45 (2 * j + 1) rfl (by omega) (Nat.le_of_ble_eq_true rfl) ?_
      refine lv_ixor hx hb dX2_processTable_46 ?_
      refine lv_ixor hx hb dX2_processTable_47 ?_
      refine bf_topE (y := (bf_rn Tn Tn xn yn (2 * j + 2)).2) (bf_two1 _ _ _ _ _) ?_
      refine lv_istore_n (lv' := [(2, .int ((bf_rn Tn Tn xn yn (2 * j + 2)).2)), (0, .ref h0), (1, .int ((bf_rn Tn Tn xn yn (2 * j)).1 ^^^ Tn (2 * j))), (3, .ref a2), (4, .int (nI 256)), (5, .int (nI (2 * i))), (6, .int (nI (2 * j + 1)))]) hx hb dX2_processTable_48 rfl hl (by decide) rfl (fun ls hl => ?_)
      refine lv_iload_n hx hb dX2_processTable_49 rfl (lv_at hl 2 rfl) ?_
      refine lv_aload_n hx hb dX2_processTable_50 rfl (lv_at hl 1 rfl) ?_
      refine lv_iload_n hx hb dX2_processTable_51 rfl (lv_at hl 0 rfl) ?_
      refine bf_calli (va_Run.run (va_runV (As := [.int ((bf_rn Tn Tn xn yn (2 * j + 2)).2)]) (rest := [.int ((bf_rn Tn Tn xn yn (2 * j)).1 ^^^ Tn (2 * j))]) ⟨hx, hb, hml, hown, hts⟩ (met_X2_F l dC dI cB cI h0 a0 a1 a2 a3 a4 en wk Tn ((bf_rn Tn Tn xn yn (2 * j + 2)).2)) (cwV 1 hts (lw_V q218 q220 qs4 q16 q221) rfl rfl rfl (by decide +kernel) ⟨Nat.le_of_ble_eq_true rfl, Nat.le_of_ble_eq_true rfl⟩) (bf_rdV hK hP [0, 1, 2, 3, 4] rfl (ci := 2) (q0 := 0) rfl rfl) rfl rfl hl.1 rfl (lv_room (Nat.le_of_ble_eq_true rfl)) dX2_processTable_52 ⟨Nat.le_of_ble_eq_true rfl, Nat.le_of_ble_eq_true rfl⟩)) ?_
      refine lv_aload_n hx hb dX2_processTable_55 rfl (lv_at hl 1 rfl) ?_
      refine va_get (D := (dC, dI)) (ci := 2) (v := .ref a4) (C := RX2) (T := TX2) (N := 7) hx hb hts in_X2 hown hK hP 0 rfl rfl 4 (by decide) (hts _ q78) (fun _ h9 => h9) rfl dX2_processTable_56 ?_
      refine lv_iload hx hb dX2_processTable_59 (lv_at hl 6 rfl) ?_
      refine lv_iconst (v := 1) hx hb dX2_processTable_61 (by decide) ?_
      refine lv_iadd hx hb dX2_processTable_62 ?_
      refine bf_iald hx hb hK hP 5 1 rfl rfl dX2_processTable_63 (2 * j + 2) (nI_add (2 * j + 1) 1) (by omega) (Nat.le_of_ble_eq_true rfl) ?_
      refine lv_ixor hx hb dX2_processTable_64 ?_
      refine lv_ixor hx hb dX2_processTable_65 ?_
      refine bf_topE (y := (bf_rn Tn Tn xn yn (2 * j + 2)).1 ^^^ Tn (2 * j + 2)) (bf_two2 _ _ _ _ _) ?_
      refine lv_istore_n (lv' := [(1, .int ((bf_rn Tn Tn xn yn (2 * j + 2)).1 ^^^ Tn (2 * j + 2))), (2, .int ((bf_rn Tn Tn xn yn (2 * j + 2)).2)), (0, .ref h0), (3, .ref a2), (4, .int (nI 256)), (5, .int (nI (2 * i))), (6, .int (nI (2 * j + 1)))]) hx hb dX2_processTable_66 rfl hl (by decide) rfl (fun ls hl => ?_)
      refine lv_iinc (v := nI (2 * (j + 1) + 1)) (lv' := [(6, .int (nI (2 * (j + 1) + 1))), (1, .int ((bf_rn Tn Tn xn yn (2 * j + 2)).1 ^^^ Tn (2 * j + 2))), (2, .int ((bf_rn Tn Tn xn yn (2 * j + 2)).2)), (0, .ref h0), (3, .ref a2), (4, .int (nI 256)), (5, .int (nI (2 * i)))]) hx hb dX2_processTable_67 hl (k := 6) rfl (by rw [show 2 * (j + 1) + 1 = 2 * j + 1 + 2 by omega]; exact nI_add (2 * j + 1) 2) (by decide) rfl (fun ls hl => ?_)
      refine lv_goto (tgt := 26) hx hb dX2_processTable_70 (by decide) ?_
      exact jh H locs ls ⟨hP, hD, hS, lv_sub hl [3, 1, 2, 4, 5, 6, 0] rfl⟩
set_option maxHeartbeats 4000000 in
set_option maxRecDepth 100000 in
/-- processTable(x, y, table 3): its 128 pairs are locked anew -/
theorem met_X2_processTable_3 (l : Launch) (dC : Nat → ClassId) (dI : Nat → Nat → Nat) (cB cI : ClassId) (sz : Nat) (h0 a0 a1 a2 a3 a4 : Nat) (en : Int32) (wk : Value) (T : Nat → Int32) (x y : Int32) : Met l yX2_processTable (ws_ yX2_processTable cX2_processTable 7 none) ({ frames := 1, cells := 0, slots := 0, locals := 21 }) (va_Pc [.ref h0, .int x, .int y, .ref a3] (bfPre (dC, dI) cB cI [(h0, .inr (2, [.ref a0, .ref a1, .ref a2, .ref a3, .ref a4, .int en, wk])), (a0, .inl (cI, 256, .inl (fun k => T (18 + k)))), (a1, .inl (cI, 256, .inl (fun k => T (274 + k)))), (a2, .inl (cI, 256, .inl (fun k => T (530 + k)))), (a3, .inl (cI, 256, .inl (fun k => T (786 + k)))), (a4, .inl (cI, 18, .inl T))] sz)) (va_Qv (fun _ : Unit => True) (fun _ t => bfPost (dC, dI) [(h0, .inr (2, [.ref a0, .ref a1, .ref a2, .ref a3, .ref a4, .int en, wk])), (a0, .inl (cI, 256, .inl (fun k => (bf_st T x y 786 128).1 (18 + k)))), (a1, .inl (cI, 256, .inl (fun k => (bf_st T x y 786 128).1 (274 + k)))), (a2, .inl (cI, 256, .inl (fun k => (bf_st T x y 786 128).1 (530 + k)))), (a3, .inl (cI, 256, .inl (fun k => (bf_st T x y 786 128).1 (786 + k)))), (a4, .inl (cI, 18, .inl (bf_st T x y 786 128).1))] (va_A [(h0, .inr (2, [.ref a0, .ref a1, .ref a2, .ref a3, .ref a4, .int en, wk])), (a0, .inl (cI, 256, .inl (fun k => T (18 + k)))), (a1, .inl (cI, 256, .inl (fun k => T (274 + k)))), (a2, .inl (cI, 256, .inl (fun k => T (530 + k)))), (a3, .inl (cI, 256, .inl (fun k => T (786 + k)))), (a4, .inl (cI, 18, .inl T))] sz) t) (va_A [(h0, .inr (2, [.ref a0, .ref a1, .ref a2, .ref a3, .ref a4, .int en, wk])), (a0, .inl (cI, 256, .inl (fun k => T (18 + k)))), (a1, .inl (cI, 256, .inl (fun k => T (274 + k)))), (a2, .inl (cI, 256, .inl (fun k => T (530 + k)))), (a3, .inl (cI, 256, .inl (fun k => T (786 + k)))), (a4, .inl (cI, 18, .inl T))] sz)) 0 0 (va_A [(h0, .inr (2, [.ref a0, .ref a1, .ref a2, .ref a3, .ref a4, .int en, wk])), (a0, .inl (cI, 256, .inl (fun k => T (18 + k)))), (a1, .inl (cI, 256, .inl (fun k => T (274 + k)))), (a2, .inl (cI, 256, .inl (fun k => T (530 + k)))), (a3, .inl (cI, 256, .inl (fun k => T (786 + k)))), (a4, .inl (cI, 18, .inl T))] sz) := by
  refine Met.ofW (cc := cX2_processTable) (maxL := 7) (ret := none) (by decide) rfl ?_
  intro p e s m args below meth c s₁ hBo hml hv
  obtain ⟨rfl, hsz, hP, hK, hD0⟩ := hv
  have hx := hBo.exec
  have hb := hBo.bytes
  have hr := hBo.returns
  have hts := atoms_spec (ws := (ws_ yX2_processTable cX2_processTable 7 none)) hBo.pre
  have hts : ∀ w ∈ lw_all, w.before _ s = true := fun w h => hts w (List.mem_cons_of_mem _ h)
  have hown : s.vm.findClass RX2 = some m.cls := findClass_of_methodNamed hBo.named
  have hlocks := hBo.notSynchronized
  subst hsz
  have hD := hD0.self (sz := s.heap.size)
  generalize hAe : va_A [(h0, .inr (2, [.ref a0, .ref a1, .ref a2, .ref a3, .ref a4, .int en, wk])), (a0, .inl (cI, 256, .inl (fun k => T (18 + k)))), (a1, .inl (cI, 256, .inl (fun k => T (274 + k)))), (a2, .inl (cI, 256, .inl (fun k => T (530 + k)))), (a3, .inl (cI, 256, .inl (fun k => T (786 + k)))), (a4, .inl (cI, 18, .inl T))] s.heap.size = A at hD ⊢
  have hA : ∀ q : Nat, s.heap.size ≤ q → A q := fun q h => by rw [← hAe]; exact Or.inr h
  have hS : va_S A s.heap s.heap [] := va_S.rf
  have hl := lv_entry ([.ref h0, .int x, .int y, .ref a3]) (n := 7) (Nat.le_of_ble_eq_true rfl)
  rw [lg_entry_eq]
  generalize (lg_sl ([.ref h0, .int x, .int y, .ref a3]) ++ List.replicate (7 - (lg_sl ([.ref h0, .int x, .int y, .ref a3])).length) Slot.unset).toArray = ls at hl ⊢
  have hl : lv_has ls 7 [(0, .ref h0), (1, .int x), (2, .int y), (3, .ref a3)] := hl
  refine lv_aload_n hx hb dX2_processTable_0 rfl (lv_at hl 3 rfl) ?_
  refine va_alen (v := nI 256) hx hb hK hP 4 1 rfl rfl rfl dX2_processTable_1 ?_
  refine lv_istore (lv' := [(4, .int (nI 256)), (0, .ref h0), (1, .int x), (2, .int y), (3, .ref a3)]) hx hb dX2_processTable_2 hl (by decide) rfl (fun ls hl => ?_)
  refine lv_iconst (v := 0) hx hb dX2_processTable_4 (by decide) ?_
  refine lv_istore (lv' := [(5, .int 0), (4, .int (nI 256)), (0, .ref h0), (1, .int x), (2, .int y), (3, .ref a3)]) hx hb dX2_processTable_5 hl (by decide) rfl (fun ls hl => ?_)
  have hl := lv_sub (l' := [(0, .ref h0), (1, .int x), (2, .int y), (3, .ref a3), (4, .int (nI 256)), (5, .int 0)]) hl [2, 3, 4, 5, 1, 0] rfl
  refine bf_while 128 (fun i H locs ls => va_P (dC, dI) vwCl [(h0, .inr (2, [.ref a0, .ref a1, .ref a2, .ref a3, .ref a4, .int en, wk])), (a0, .inl (cI, 256, .inl (fun k => (bf_st T x y 786 (i)).1 (18 + k)))), (a1, .inl (cI, 256, .inl (fun k => (bf_st T x y 786 (i)).1 (274 + k)))), (a2, .inl (cI, 256, .inl (fun k => (bf_st T x y 786 (i)).1 (530 + k)))), (a3, .inl (cI, 256, .inl (fun k => (bf_st T x y 786 (i)).1 (786 + k)))), (a4, .inl (cI, 18, .inl (bf_st T x y 786 (i)).1))] H ∧ va_D A [(h0, .inr (2, [.ref a0, .ref a1, .ref a2, .ref a3, .ref a4, .int en, wk])), (a0, .inl (cI, 256, .inl (fun k => (bf_st T x y 786 (i)).1 (18 + k)))), (a1, .inl (cI, 256, .inl (fun k => (bf_st T x y 786 (i)).1 (274 + k)))), (a2, .inl (cI, 256, .inl (fun k => (bf_st T x y 786 (i)).1 (530 + k)))), (a3, .inl (cI, 256, .inl (fun k => (bf_st T x y 786 (i)).1 (786 + k)))), (a4, .inl (cI, 18, .inl (bf_st T x y 786 (i)).1))] ∧ va_S A s.heap H locs ∧ lv_has ls 7 [(0, .ref h0), (1, .int (bf_st T x y 786 (i)).2.1), (2, .int (bf_st T x y 786 (i)).2.2), (3, .ref a3), (4, .int (nI 256)), (5, .int (nI (2 * i)))]) (fun _ => 0) (fun _ => 0) 0 (Nat.zero_le _) ⟨hP, hD, hS, hl⟩ (fun H locs ls hI => ?_) (fun i hi ih H locs ls hI => ?_)
  · obtain ⟨hP, hD, hS, hl⟩ := hI
    refine lv_iload hx hb dX2_processTable_7 (lv_at hl 5 rfl) ?_
    refine lv_iload hx hb dX2_processTable_9 (lv_at hl 4 rfl) ?_
    refine lv_icmp_ge (tgt := 108) hx hb dX2_processTable_11 (by decide) (fun _ => ?_) (fun h9 => absurd (nI_le (Nat.le_of_ble_eq_true rfl) (Nat.le_of_ble_eq_true rfl)) h9)
    exact W.vret hx hb hr (fun t ht hW => ⟨⟨(), rfl, trivial, by rw [ht]; exact hP, hD⟩, hS.F ht⟩) hS.2.2 dX2_processTable_108
  · obtain ⟨hP, hD, hS, hl⟩ := hI
    generalize hTn : (bf_st T x y 786 i).1 = Tn at hP hD
    generalize hxn : (bf_st T x y 786 i).2.1 = xn at hl
    generalize hyn : (bf_st T x y 786 i).2.2 = yn at hl
    refine lv_iload hx hb dX2_processTable_7 (lv_at hl 5 rfl) ?_
    refine lv_iload hx hb dX2_processTable_9 (lv_at hl 4 rfl) ?_
    refine lv_icmp_ge (tgt := 108) hx hb dX2_processTable_11 (by decide) (fun h9 => absurd h9 (nI_ge (by omega) (Nat.le_of_ble_eq_true rfl))) (fun _ => ?_)
    refine lv_iload_n hx hb dX2_processTable_14 rfl (lv_at hl 1 rfl) ?_
    refine lv_aload_n hx hb dX2_processTable_15 rfl (lv_at hl 0 rfl) ?_
    refine va_get (D := (dC, dI)) (ci := 2) (v := .ref a4) (C := RX2) (T := TX2) (N := 7) hx hb hts in_X2 hown hK hP 0 rfl rfl 4 (by decide) (hts _ q78) (fun _ h9 => h9) rfl dX2_processTable_16 ?_
    refine lv_iconst (v := 0) hx hb dX2_processTable_19 (by decide) ?_
    refine bf_iald hx hb hK hP 5 1 rfl rfl dX2_processTable_20 0 rfl (Nat.le_of_ble_eq_true rfl) (Nat.le_of_ble_eq_true rfl) ?_
    refine lv_ixor hx hb dX2_processTable_21 ?_
    refine bf_topE (y := (bf_rn Tn Tn xn yn (2 * 0)).1 ^^^ Tn (2 * 0)) rfl ?_
    refine lv_istore_n (lv' := [(1, .int ((bf_rn Tn Tn xn yn (2 * 0)).1 ^^^ Tn (2 * 0))), (0, .ref h0), (2, .int yn), (3, .ref a3), (4, .int (nI 256)), (5, .int (nI (2 * i)))]) hx hb dX2_processTable_22 rfl hl (by decide) rfl (fun ls hl => ?_)
    refine lv_iconst (v := 1) hx hb dX2_processTable_23 (by decide) ?_
    refine lv_istore (lv' := [(6, .int 1), (1, .int ((bf_rn Tn Tn xn yn (2 * 0)).1 ^^^ Tn (2 * 0))), (0, .ref h0), (2, .int yn), (3, .ref a3), (4, .int (nI 256)), (5, .int (nI (2 * i)))]) hx hb dX2_processTable_24 hl (by decide) rfl (fun ls hl => ?_)
    have hl := lv_sub (l' := [(0, .ref h0), (1, .int ((bf_rn Tn Tn xn yn (2 * 0)).1 ^^^ Tn (2 * 0))), (2, .int yn), (3, .ref a3), (4, .int (nI 256)), (5, .int (nI (2 * i))), (6, .int 1)]) hl [2, 1, 3, 4, 5, 6, 0] rfl
    refine bf_while 8 (fun j H locs ls => va_P (dC, dI) vwCl [(h0, .inr (2, [.ref a0, .ref a1, .ref a2, .ref a3, .ref a4, .int en, wk])), (a0, .inl (cI, 256, .inl (fun k => Tn (18 + k)))), (a1, .inl (cI, 256, .inl (fun k => Tn (274 + k)))), (a2, .inl (cI, 256, .inl (fun k => Tn (530 + k)))), (a3, .inl (cI, 256, .inl (fun k => Tn (786 + k)))), (a4, .inl (cI, 18, .inl Tn))] H ∧ va_D A [(h0, .inr (2, [.ref a0, .ref a1, .ref a2, .ref a3, .ref a4, .int en, wk])), (a0, .inl (cI, 256, .inl (fun k => Tn (18 + k)))), (a1, .inl (cI, 256, .inl (fun k => Tn (274 + k)))), (a2, .inl (cI, 256, .inl (fun k => Tn (530 + k)))), (a3, .inl (cI, 256, .inl (fun k => Tn (786 + k)))), (a4, .inl (cI, 18, .inl Tn))] ∧ va_S A s.heap H locs ∧ lv_has ls 7 [(0, .ref h0), (1, .int ((bf_rn Tn Tn xn yn (2 * j)).1 ^^^ Tn (2 * j))), (2, .int (bf_rn Tn Tn xn yn (2 * j)).2), (3, .ref a3), (4, .int (nI 256)), (5, .int (nI (2 * i))), (6, .int (nI (2 * j + 1)))]) (fun _ => 0) (fun _ => 0) 0 (Nat.zero_le _) ⟨hP, hD, hS, hl⟩ (fun H locs ls hI => ?_) (fun j hj jh H locs ls hI => ?_)
    · obtain ⟨hP, hD, hS, hl⟩ := hI
      refine lv_iload hx hb dX2_processTable_26 (lv_at hl 6 rfl) ?_
      refine lv_bipush (v := 16) hx hb dX2_processTable_28 (by decide) ?_
      refine lv_icmp_ge (tgt := 73) hx hb dX2_processTable_30 (by decide) (fun _ => ?_) (fun h9 => absurd (nI_le (a := 16) (b := 2 * 8 + 1) (Nat.le_of_ble_eq_true rfl) (Nat.le_of_ble_eq_true rfl)) h9)
      refine lv_iload_n hx hb dX2_processTable_73 rfl (lv_at hl 2 rfl) ?_
      refine lv_aload_n hx hb dX2_processTable_74 rfl (lv_at hl 0 rfl) ?_
      refine va_get (D := (dC, dI)) (ci := 2) (v := .ref a4) (C := RX2) (T := TX2) (N := 7) hx hb hts in_X2 hown hK hP 0 rfl rfl 4 (by decide) (hts _ q78) (fun _ h9 => h9) rfl dX2_processTable_75 ?_
      refine lv_bipush (v := 17) hx hb dX2_processTable_78 (by decide) ?_
      refine bf_iald hx hb hK hP 5 1 rfl rfl dX2_processTable_80 17 rfl (Nat.le_of_ble_eq_true rfl) (Nat.le_of_ble_eq_true rfl) ?_
      refine lv_ixor hx hb dX2_processTable_81 ?_
      refine bf_topE (y := (bf_cr Tn Tn xn yn).1) rfl ?_
      refine lv_istore_n (lv' := [(2, .int ((bf_cr Tn Tn xn yn).1)), (0, .ref h0), (1, .int ((bf_rn Tn Tn xn yn (2 * 8)).1 ^^^ Tn (2 * 8))), (3, .ref a3), (4, .int (nI 256)), (5, .int (nI (2 * i))), (6, .int (nI (2 * 8 + 1)))]) hx hb dX2_processTable_82 rfl hl (by decide) rfl (fun ls hl => ?_)
      have hl := lv_sub (l' := [(0, .ref h0), (1, .int (bf_cr Tn Tn xn yn).2), (2, .int (bf_cr Tn Tn xn yn).1), (3, .ref a3), (4, .int (nI 256)), (5, .int (nI (2 * i)))]) hl [1, 2, 0, 3, 4, 5] rfl
      refine lv_aload_n hx hb dX2_processTable_83 rfl (lv_at hl 3 rfl) ?_
      refine lv_iload hx hb dX2_processTable_84 (lv_at hl 5 rfl) ?_
      refine lv_iload_n hx hb dX2_processTable_86 rfl (lv_at hl 2 rfl) ?_
      refine bf_iast hx hb hK hP hD hS 4 1 rfl rfl dX2_processTable_87 (2 * i) rfl (by omega) (Nat.le_of_ble_eq_true rfl) (fun H locs hP hD hS => ?_)
      have hP : va_P (dC, dI) vwCl [(h0, .inr (2, [.ref a0, .ref a1, .ref a2, .ref a3, .ref a4, .int en, wk])), (a0, .inl (cI, 256, .inl (fun k => Tn (18 + k)))), (a1, .inl (cI, 256, .inl (fun k => Tn (274 + k)))), (a2, .inl (cI, 256, .inl (fun k => Tn (530 + k)))), (a3, .inl (cI, 256, .inl (upd (fun k => Tn (786 + k)) (2 * i) ((bf_cr Tn Tn xn yn).1)))), (a4, .inl (cI, 18, .inl Tn))] H := hP
      have hD : va_D A [(h0, .inr (2, [.ref a0, .ref a1, .ref a2, .ref a3, .ref a4, .int en, wk])), (a0, .inl (cI, 256, .inl (fun k => Tn (18 + k)))), (a1, .inl (cI, 256, .inl (fun k => Tn (274 + k)))), (a2, .inl (cI, 256, .inl (fun k => Tn (530 + k)))), (a3, .inl (cI, 256, .inl (upd (fun k => Tn (786 + k)) (2 * i) ((bf_cr Tn Tn xn yn).1)))), (a4, .inl (cI, 18, .inl Tn))] := hD
      have hP := bf_upd_3 (wz := []) (by omega) hP
      have hD := bf_D.re (ws' := [(h0, .inr (2, [.ref a0, .ref a1, .ref a2, .ref a3, .ref a4, .int en, wk])), (a0, .inl (cI, 256, .inl (fun k => (upd Tn (786 + 2 * i) (bf_cr Tn Tn xn yn).1) (18 + k)))), (a1, .inl (cI, 256, .inl (fun k => (upd Tn (786 + 2 * i) (bf_cr Tn Tn xn yn).1) (274 + k)))), (a2, .inl (cI, 256, .inl (fun k => (upd Tn (786 + 2 * i) (bf_cr Tn Tn xn yn).1) (530 + k)))), (a3, .inl (cI, 256, .inl (fun k => (upd Tn (786 + 2 * i) (bf_cr Tn Tn xn yn).1) (786 + k)))), (a4, .inl (cI, 18, .inl (upd Tn (786 + 2 * i) (bf_cr Tn Tn xn yn).1)))]) hD [h0, a0, a1, a2, a3, a4] rfl rfl
      have hP : va_P (dC, dI) vwCl [(h0, .inr (2, [.ref a0, .ref a1, .ref a2, .ref a3, .ref a4, .int en, wk])), (a0, .inl (cI, 256, .inl (fun k => (upd Tn (786 + 2 * i) (bf_cr Tn Tn xn yn).1) (18 + k)))), (a1, .inl (cI, 256, .inl (fun k => (upd Tn (786 + 2 * i) (bf_cr Tn Tn xn yn).1) (274 + k)))), (a2, .inl (cI, 256, .inl (fun k => (upd Tn (786 + 2 * i) (bf_cr Tn Tn xn yn).1) (530 + k)))), (a3, .inl (cI, 256, .inl (fun k => (upd Tn (786 + 2 * i) (bf_cr Tn Tn xn yn).1) (786 + k)))), (a4, .inl (cI, 18, .inl (upd Tn (786 + 2 * i) (bf_cr Tn Tn xn yn).1)))] H := hP
      have hD : va_D A [(h0, .inr (2, [.ref a0, .ref a1, .ref a2, .ref a3, .ref a4, .int en, wk])), (a0, .inl (cI, 256, .inl (fun k => (upd Tn (786 + 2 * i) (bf_cr Tn Tn xn yn).1) (18 + k)))), (a1, .inl (cI, 256, .inl (fun k => (upd Tn (786 + 2 * i) (bf_cr Tn Tn xn yn).1) (274 + k)))), (a2, .inl (cI, 256, .inl (fun k => (upd Tn (786 + 2 * i) (bf_cr Tn Tn xn yn).1) (530 + k)))), (a3, .inl (cI, 256, .inl (fun k => (upd Tn (786 + 2 * i) (bf_cr Tn Tn xn yn).1) (786 + k)))), (a4, .inl (cI, 18, .inl (upd Tn (786 + 2 * i) (bf_cr Tn Tn xn yn).1)))] := hD
      refine lv_aload_n hx hb dX2_processTable_88 rfl (lv_at hl 3 rfl) ?_
      refine lv_iload hx hb dX2_processTable_89 (lv_at hl 5 rfl) ?_
      refine lv_iconst (v := 1) hx hb dX2_processTable_91 (by decide) ?_
      refine lv_iadd hx hb dX2_processTable_92 ?_
      refine lv_iload_n hx hb dX2_processTable_93 rfl (lv_at hl 1 rfl) ?_
      refine bf_iast hx hb hK hP hD hS 4 1 rfl rfl dX2_processTable_94 (2 * i + 1) (nI_add (2 * i) 1) (by omega) (Nat.le_of_ble_eq_true rfl) (fun H locs hP hD hS => ?_)
      have hP : va_P (dC, dI) vwCl [(h0, .inr (2, [.ref a0, .ref a1, .ref a2, .ref a3, .ref a4, .int en, wk])), (a0, .inl (cI, 256, .inl (fun k => (upd Tn (786 + 2 * i) (bf_cr Tn Tn xn yn).1) (18 + k)))), (a1, .inl (cI, 256, .inl (fun k => (upd Tn (786 + 2 * i) (bf_cr Tn Tn xn yn).1) (274 + k)))), (a2, .inl (cI, 256, .inl (fun k => (upd Tn (786 + 2 * i) (bf_cr Tn Tn xn yn).1) (530 + k)))), (a3, .inl (cI, 256, .inl (upd (fun k => (upd Tn (786 + 2 * i) (bf_cr Tn Tn xn yn).1) (786 + k)) (2 * i + 1) ((bf_cr Tn Tn xn yn).2)))), (a4, .inl (cI, 18, .inl (upd Tn (786 + 2 * i) (bf_cr Tn Tn xn yn).1)))] H := hP
      have hD : va_D A [(h0, .inr (2, [.ref a0, .ref a1, .ref a2, .ref a3, .ref a4, .int en, wk])), (a0, .inl (cI, 256, .inl (fun k => (upd Tn (786 + 2 * i) (bf_cr Tn Tn xn yn).1) (18 + k)))), (a1, .inl (cI, 256, .inl (fun k => (upd Tn (786 + 2 * i) (bf_cr Tn Tn xn yn).1) (274 + k)))), (a2, .inl (cI, 256, .inl (fun k => (upd Tn (786 + 2 * i) (bf_cr Tn Tn xn yn).1) (530 + k)))), (a3, .inl (cI, 256, .inl (upd (fun k => (upd Tn (786 + 2 * i) (bf_cr Tn Tn xn yn).1) (786 + k)) (2 * i + 1) ((bf_cr Tn Tn xn yn).2)))), (a4, .inl (cI, 18, .inl (upd Tn (786 + 2 * i) (bf_cr Tn Tn xn yn).1)))] := hD
      have hP := bf_upd_3 (wz := []) (by omega) hP
      have hD := bf_D.re (ws' := [(h0, .inr (2, [.ref a0, .ref a1, .ref a2, .ref a3, .ref a4, .int en, wk])), (a0, .inl (cI, 256, .inl (fun k => (upd (upd Tn (786 + 2 * i) (bf_cr Tn Tn xn yn).1) (786 + (2 * i + 1)) (bf_cr Tn Tn xn yn).2) (18 + k)))), (a1, .inl (cI, 256, .inl (fun k => (upd (upd Tn (786 + 2 * i) (bf_cr Tn Tn xn yn).1) (786 + (2 * i + 1)) (bf_cr Tn Tn xn yn).2) (274 + k)))), (a2, .inl (cI, 256, .inl (fun k => (upd (upd Tn (786 + 2 * i) (bf_cr Tn Tn xn yn).1) (786 + (2 * i + 1)) (bf_cr Tn Tn xn yn).2) (530 + k)))), (a3, .inl (cI, 256, .inl (fun k => (upd (upd Tn (786 + 2 * i) (bf_cr Tn Tn xn yn).1) (786 + (2 * i + 1)) (bf_cr Tn Tn xn yn).2) (786 + k)))), (a4, .inl (cI, 18, .inl (upd (upd Tn (786 + 2 * i) (bf_cr Tn Tn xn yn).1) (786 + (2 * i + 1)) (bf_cr Tn Tn xn yn).2)))]) hD [h0, a0, a1, a2, a3, a4] rfl rfl
      have hP : va_P (dC, dI) vwCl [(h0, .inr (2, [.ref a0, .ref a1, .ref a2, .ref a3, .ref a4, .int en, wk])), (a0, .inl (cI, 256, .inl (fun k => (upd (upd Tn (786 + 2 * i) (bf_cr Tn Tn xn yn).1) (786 + (2 * i + 1)) (bf_cr Tn Tn xn yn).2) (18 + k)))), (a1, .inl (cI, 256, .inl (fun k => (upd (upd Tn (786 + 2 * i) (bf_cr Tn Tn xn yn).1) (786 + (2 * i + 1)) (bf_cr Tn Tn xn yn).2) (274 + k)))), (a2, .inl (cI, 256, .inl (fun k => (upd (upd Tn (786 + 2 * i) (bf_cr Tn Tn xn yn).1) (786 + (2 * i + 1)) (bf_cr Tn Tn xn yn).2) (530 + k)))), (a3, .inl (cI, 256, .inl (fun k => (upd (upd Tn (786 + 2 * i) (bf_cr Tn Tn xn yn).1) (786 + (2 * i + 1)) (bf_cr Tn Tn xn yn).2) (786 + k)))), (a4, .inl (cI, 18, .inl (upd (upd Tn (786 + 2 * i) (bf_cr Tn Tn xn yn).1) (786 + (2 * i + 1)) (bf_cr Tn Tn xn yn).2)))] H := hP
      have hD : va_D A [(h0, .inr (2, [.ref a0, .ref a1, .ref a2, .ref a3, .ref a4, .int en, wk])), (a0, .inl (cI, 256, .inl (fun k => (upd (upd Tn (786 + 2 * i) (bf_cr Tn Tn xn yn).1) (786 + (2 * i + 1)) (bf_cr Tn Tn xn yn).2) (18 + k)))), (a1, .inl (cI, 256, .inl (fun k => (upd (upd Tn (786 + 2 * i) (bf_cr Tn Tn xn yn).1) (786 + (2 * i + 1)) (bf_cr Tn Tn xn yn).2) (274 + k)))), (a2, .inl (cI, 256, .inl (fun k => (upd (upd Tn (786 + 2 * i) (bf_cr Tn Tn xn yn).1) (786 + (2 * i + 1)) (bf_cr Tn Tn xn yn).2) (530 + k)))), (a3, .inl (cI, 256, .inl (fun k => (upd (upd Tn (786 + 2 * i) (bf_cr Tn Tn xn yn).1) (786 + (2 * i + 1)) (bf_cr Tn Tn xn yn).2) (786 + k)))), (a4, .inl (cI, 18, .inl (upd (upd Tn (786 + 2 * i) (bf_cr Tn Tn xn yn).1) (786 + (2 * i + 1)) (bf_cr Tn Tn xn yn).2)))] := hD
      refine lv_iload_n hx hb dX2_processTable_95 rfl (lv_at hl 1 rfl) ?_
      refine lv_istore_n (lv' := [(2, .int (bf_cr Tn Tn xn yn).2), (0, .ref h0), (1, .int (bf_cr Tn Tn xn yn).2), (3, .ref a3), (4, .int (nI 256)), (5, .int (nI (2 * i)))]) hx hb dX2_processTable_96 rfl hl (by decide) rfl (fun ls hl => ?_)
      refine lv_aload_n hx hb dX2_processTable_97 rfl (lv_at hl 3 rfl) ?_
      refine lv_iload hx hb dX2_processTable_98 (lv_at hl 5 rfl) ?_
      refine bf_iald hx hb hK hP 4 1 rfl rfl dX2_processTable_100 (2 * i) rfl (by omega) (Nat.le_of_ble_eq_true rfl) ?_
      refine bf_topE (y := (bf_cr Tn Tn xn yn).1) (by show upd (upd Tn (786 + 2 * i) _) (786 + (2 * i + 1)) _ (786 + 2 * i) = _; rw [pk_un (by omega), pk_us]) ?_
      refine lv_istore_n (lv' := [(1, .int ((bf_cr Tn Tn xn yn).1)), (2, .int (bf_cr Tn Tn xn yn).2), (0, .ref h0), (3, .ref a3), (4, .int (nI 256)), (5, .int (nI (2 * i)))]) hx hb dX2_processTable_101 rfl hl (by decide) rfl (fun ls hl => ?_)
      refine lv_iinc (v := nI (2 * (i + 1))) (lv' := [(5, .int (nI (2 * (i + 1)))), (1, .int ((bf_cr Tn Tn xn yn).1)), (2, .int (bf_cr Tn Tn xn yn).2), (0, .ref h0), (3, .ref a3), (4, .int (nI 256))]) hx hb dX2_processTable_102 hl (k := 5) rfl (by rw [show 2 * (i + 1) = 2 * i + 2 by omega]; exact nI_add (2 * i) 2) (by decide) rfl (fun ls hl => ?_)
      refine lv_goto (tgt := 7) hx hb dX2_processTable_105 (by decide) ?_
      subst hTn; subst hxn; subst hyn
      refine ih H locs ls ⟨?_, ?_, hS, ?_⟩
      · exact hP
      · exact hD
      · exact lv_sub hl [3, 1, 2, 4, 5, 0] rfl
    · obtain ⟨hP, hD, hS, hl⟩ := hI
      refine lv_iload hx hb dX2_processTable_26 (lv_at hl 6 rfl) ?_
      refine lv_bipush (v := 16) hx hb dX2_processTable_28 (by decide) ?_
      refine lv_icmp_ge (tgt := 73) hx hb dX2_processTable_30 (by decide) (fun h9 => absurd h9 (nI_ge (a := 2 * j + 1) (b := 16) (by omega) (Nat.le_of_ble_eq_true rfl))) (fun _ => ?_)
      refine lv_iload_n hx hb dX2_processTable_33 rfl (lv_at hl 2 rfl) ?_
      refine lv_aload_n hx hb dX2_processTable_34 rfl (lv_at hl 0 rfl) ?_
      refine lv_iload_n hx hb dX2_processTable_35 rfl (lv_at hl 1 rfl) ?_
      refine bf_calli (va_Run.run (va_runV (As := [.int ((bf_rn Tn Tn xn yn (2 * j)).1 ^^^ Tn (2 * j))]) (rest := [.int (bf_rn Tn Tn xn yn (2 * j)).2]) ⟨hx, hb, hml, hown, hts⟩ (met_X2_F l dC dI cB cI h0 a0 a1 a2 a3 a4 en wk Tn ((bf_rn Tn Tn xn yn (2 * j)).1 ^^^ Tn (2 * j))) (cwV 1 hts (lw_V q218 q220 qs4 q16 q221) rfl rfl rfl (by decide +kernel) ⟨Nat.le_of_ble_eq_true rfl, Nat.le_of_ble_eq_true rfl⟩) (bf_rdV hK hP [0, 1, 2, 3, 4] rfl (ci := 2) (q0 := 0) rfl rfl) rfl rfl hl.1 rfl (lv_room (Nat.le_of_ble_eq_true rfl)) dX2_processTable_36 ⟨Nat.le_of_ble_eq_true rfl, Nat.le_of_ble_eq_true rfl⟩)) ?_
      refine lv_aload_n hx hb dX2_processTable_39 rfl (lv_at hl 0 rfl) ?_
      refine va_get (D := (dC, dI)) (ci := 2) (v := .ref a4) (C := RX2) (T := TX2) (N := 7) hx hb hts in_X2 hown hK hP 0 rfl rfl 4 (by decide) (hts _ q78) (fun _ h9 => h9) rfl dX2_processTable_40 ?_
      refine lv_iload hx hb dX2_processTable_43 (lv_at hl 6 rfl) ?_
      refine bf_iald hx hb hK hP 5 1 rfl rfl dX2_processTable_45 (2 * j + 1) rfl (by omega) (Nat.le_of_ble_eq_true rfl) ?_
      refine lv_ixor hx hb dX2_processTable_46 ?_
      refine lv_ixor hx hb dX2_processTable_47 ?_
      refine bf_topE (y := (bf_rn Tn Tn xn yn (2 * j + 2)).2) (bf_two1 _ _ _ _ _) ?_
      refine lv_istore_n (lv' := [(2, .int ((bf_rn Tn Tn xn yn (2 * j + 2)).2)), (0, .ref h0), (1, .int ((bf_rn Tn Tn xn yn (2 * j)).1 ^^^ Tn (2 * j))), (3, .ref a3), (4, .int (nI 256)), (5, .int (nI (2 * i))), (6, .int (nI (2 * j + 1)))]) hx hb dX2_processTable_48 rfl hl (by decide) rfl (fun ls hl => ?_)
      refine lv_iload_n hx hb dX2_processTable_49 rfl (lv_at hl 2 rfl) ?_
      refine lv_aload_n hx hb dX2_processTable_50 rfl (lv_at hl 1 rfl) ?_
      refine lv_iload_n hx hb dX2_processTable_51 rfl (lv_at hl 0 rfl) ?_
      refine bf_calli (va_Run.run (va_runV (As := [.int ((bf_rn Tn Tn xn yn (2 * j + 2)).2)]) (rest := [.int ((bf_rn Tn Tn xn yn (2 * j)).1 ^^^ Tn (2 * j))]) ⟨hx, hb, hml, hown, hts⟩ (met_X2_F l dC dI cB cI h0 a0 a1 a2 a3 a4 en wk Tn ((bf_rn Tn Tn xn yn (2 * j + 2)).2)) (cwV 1 hts (lw_V q218 q220 qs4 q16 q221) rfl rfl rfl (by decide +kernel) ⟨Nat.le_of_ble_eq_true rfl, Nat.le_of_ble_eq_true rfl⟩) (bf_rdV hK hP [0, 1, 2, 3, 4] rfl (ci := 2) (q0 := 0) rfl rfl) rfl rfl hl.1 rfl (lv_room (Nat.le_of_ble_eq_true rfl)) dX2_processTable_52 ⟨Nat.le_of_ble_eq_true rfl, Nat.le_of_ble_eq_true rfl⟩)) ?_
      refine lv_aload_n hx hb dX2_processTable_55 rfl (lv_at hl 1 rfl) ?_
      refine va_get (D := (dC, dI)) (ci := 2) (v := .ref a4) (C := RX2) (T := TX2) (N := 7) hx hb hts in_X2 hown hK hP 0 rfl rfl 4 (by decide) (hts _ q78) (fun _ h9 => h9) rfl dX2_processTable_56 ?_
      refine lv_iload hx hb dX2_processTable_59 (lv_at hl 6 rfl) ?_
      refine lv_iconst (v := 1) hx hb dX2_processTable_61 (by decide) ?_
      refine lv_iadd hx hb dX2_processTable_62 ?_
      refine bf_iald hx hb hK hP 5 1 rfl rfl dX2_processTable_63 (2 * j + 2) (nI_add (2 * j + 1) 1) (by omega) (Nat.le_of_ble_eq_true rfl) ?_
      refine lv_ixor hx hb dX2_processTable_64 ?_
      refine lv_ixor hx hb dX2_processTable_65 ?_
      refine bf_topE (y := (bf_rn Tn Tn xn yn (2 * j + 2)).1 ^^^ Tn (2 * j + 2)) (bf_two2 _ _ _ _ _) ?_
      refine lv_istore_n (lv' := [(1, .int ((bf_rn Tn Tn xn yn (2 * j + 2)).1 ^^^ Tn (2 * j + 2))), (2, .int ((bf_rn Tn Tn xn yn (2 * j + 2)).2)), (0, .ref h0), (3, .ref a3), (4, .int (nI 256)), (5, .int (nI (2 * i))), (6, .int (nI (2 * j + 1)))]) hx hb dX2_processTable_66 rfl hl (by decide) rfl (fun ls hl => ?_)
      refine lv_iinc (v := nI (2 * (j + 1) + 1)) (lv' := [(6, .int (nI (2 * (j + 1) + 1))), (1, .int ((bf_rn Tn Tn xn yn (2 * j + 2)).1 ^^^ Tn (2 * j + 2))), (2, .int ((bf_rn Tn Tn xn yn (2 * j + 2)).2)), (0, .ref h0), (3, .ref a3), (4, .int (nI 256)), (5, .int (nI (2 * i)))]) hx hb dX2_processTable_67 hl (k := 6) rfl (by rw [show 2 * (j + 1) + 1 = 2 * j + 1 + 2 by omega]; exact nI_add (2 * j + 1) 2) (by decide) rfl (fun ls hl => ?_)
      refine lv_goto (tgt := 26) hx hb dX2_processTable_70 (by decide) ?_
      exact jh H locs ls ⟨hP, hD, hS, lv_sub hl [3, 1, 2, 4, 5, 6, 0] rfl⟩
set_option maxHeartbeats 4000000 in
set_option maxRecDepth 100000 in
/-- processTable(x, y, table 4): its 9 pairs are locked anew -/
theorem met_X2_processTable_4 (l : Launch) (dC : Nat → ClassId) (dI : Nat → Nat → Nat) (cB cI : ClassId) (sz : Nat) (h0 a0 a1 a2 a3 a4 : Nat) (en : Int32) (wk : Value) (T : Nat → Int32) (x y : Int32) : Met l yX2_processTable (ws_ yX2_processTable cX2_processTable 7 none) ({ frames := 1, cells := 0, slots := 0, locals := 21 }) (va_Pc [.ref h0, .int x, .int y, .ref a4] (bfPre (dC, dI) cB cI [(h0, .inr (2, [.ref a0, .ref a1, .ref a2, .ref a3, .ref a4, .int en, wk])), (a0, .inl (cI, 256, .inl (fun k => T (18 + k)))), (a1, .inl (cI, 256, .inl (fun k => T (274 + k)))), (a2, .inl (cI, 256, .inl (fun k => T (530 + k)))), (a3, .inl (cI, 256, .inl (fun k => T (786 + k)))), (a4, .inl (cI, 18, .inl T))] sz)) (va_Qv (fun _ : Unit => True) (fun _ t => bfPost (dC, dI) [(h0, .inr (2, [.ref a0, .ref a1, .ref a2, .ref a3, .ref a4, .int en, wk])), (a0, .inl (cI, 256, .inl (fun k => (bf_st T x y 0 9).1 (18 + k)))), (a1, .inl (cI, 256, .inl (fun k => (bf_st T x y 0 9).1 (274 + k)))), (a2, .inl (cI, 256, .inl (fun k => (bf_st T x y 0 9).1 (530 + k)))), (a3, .inl (cI, 256, .inl (fun k => (bf_st T x y 0 9).1 (786 + k)))), (a4, .inl (cI, 18, .inl (bf_st T x y 0 9).1))] (va_A [(h0, .inr (2, [.ref a0, .ref a1, .ref a2, .ref a3, .ref a4, .int en, wk])), (a0, .inl (cI, 256, .inl (fun k => T (18 + k)))), (a1, .inl (cI, 256, .inl (fun k => T (274 + k)))), (a2, .inl (cI, 256, .inl (fun k => T (530 + k)))), (a3, .inl (cI, 256, .inl (fun k => T (786 + k)))), (a4, .inl (cI, 18, .inl T))] sz) t) (va_A [(h0, .inr (2, [.ref a0, .ref a1, .ref a2, .ref a3, .ref a4, .int en, wk])), (a0, .inl (cI, 256, .inl (fun k => T (18 + k)))), (a1, .inl (cI, 256, .inl (fun k => T (274 + k)))), (a2, .inl (cI, 256, .inl (fun k => T (530 + k)))), (a3, .inl (cI, 256, .inl (fun k => T (786 + k)))), (a4, .inl (cI, 18, .inl T))] sz)) 0 0 (va_A [(h0, .inr (2, [.ref a0, .ref a1, .ref a2, .ref a3, .ref a4, .int en, wk])), (a0, .inl (cI, 256, .inl (fun k => T (18 + k)))), (a1, .inl (cI, 256, .inl (fun k => T (274 + k)))), (a2, .inl (cI, 256, .inl (fun k => T (530 + k)))), (a3, .inl (cI, 256, .inl (fun k => T (786 + k)))), (a4, .inl (cI, 18, .inl T))] sz) := by
  refine Met.ofW (cc := cX2_processTable) (maxL := 7) (ret := none) (by decide) rfl ?_
  intro p e s m args below meth c s₁ hBo hml hv
  obtain ⟨rfl, hsz, hP, hK, hD0⟩ := hv
  have hx := hBo.exec
  have hb := hBo.bytes
  have hr := hBo.returns
  have hts := atoms_spec (ws := (ws_ yX2_processTable cX2_processTable 7 none)) hBo.pre
  have hts : ∀ w ∈ lw_all, w.before _ s = true := fun w h => hts w (List.mem_cons_of_mem _ h)
  have hown : s.vm.findClass RX2 = some m.cls := findClass_of_methodNamed hBo.named
  have hlocks := hBo.notSynchronized
  subst hsz
  have hD := hD0.self (sz := s.heap.size)
  generalize hAe : va_A [(h0, .inr (2, [.ref a0, .ref a1, .ref a2, .ref a3, .ref a4, .int en, wk])), (a0, .inl (cI, 256, .inl (fun k => T (18 + k)))), (a1, .inl (cI, 256, .inl (fun k => T (274 + k)))), (a2, .inl (cI, 256, .inl (fun k => T (530 + k)))), (a3, .inl (cI, 256, .inl (fun k => T (786 + k)))), (a4, .inl (cI, 18, .inl T))] s.heap.size = A at hD ⊢
  have hA : ∀ q : Nat, s.heap.size ≤ q → A q := fun q h => by rw [← hAe]; exact Or.inr h
  have hS : va_S A s.heap s.heap [] := va_S.rf
  have hl := lv_entry ([.ref h0, .int x, .int y, .ref a4]) (n := 7) (Nat.le_of_ble_eq_true rfl)
  rw [lg_entry_eq]
  generalize (lg_sl ([.ref h0, .int x, .int y, .ref a4]) ++ List.replicate (7 - (lg_sl ([.ref h0, .int x, .int y, .ref a4])).length) Slot.unset).toArray = ls at hl ⊢
  have hl : lv_has ls 7 [(0, .ref h0), (1, .int x), (2, .int y), (3, .ref a4)] := hl
  refine lv_aload_n hx hb dX2_processTable_0 rfl (lv_at hl 3 rfl) ?_
  refine va_alen (v := nI 18) hx hb hK hP 5 1 rfl rfl rfl dX2_processTable_1 ?_
  refine lv_istore (lv' := [(4, .int (nI 18)), (0, .ref h0), (1, .int x), (2, .int y), (3, .ref a4)]) hx hb dX2_processTable_2 hl (by decide) rfl (fun ls hl => ?_)
  refine lv_iconst (v := 0) hx hb dX2_processTable_4 (by decide) ?_
  refine lv_istore (lv' := [(5, .int 0), (4, .int (nI 18)), (0, .ref h0), (1, .int x), (2, .int y), (3, .ref a4)]) hx hb dX2_processTable_5 hl (by decide) rfl (fun ls hl => ?_)
  have hl := lv_sub (l' := [(0, .ref h0), (1, .int x), (2, .int y), (3, .ref a4), (4, .int (nI 18)), (5, .int 0)]) hl [2, 3, 4, 5, 1, 0] rfl
  refine bf_while 9 (fun i H locs ls => va_P (dC, dI) vwCl [(h0, .inr (2, [.ref a0, .ref a1, .ref a2, .ref a3, .ref a4, .int en, wk])), (a0, .inl (cI, 256, .inl (fun k => (bf_st T x y 0 (i)).1 (18 + k)))), (a1, .inl (cI, 256, .inl (fun k => (bf_st T x y 0 (i)).1 (274 + k)))), (a2, .inl (cI, 256, .inl (fun k => (bf_st T x y 0 (i)).1 (530 + k)))), (a3, .inl (cI, 256, .inl (fun k => (bf_st T x y 0 (i)).1 (786 + k)))), (a4, .inl (cI, 18, .inl (bf_st T x y 0 (i)).1))] H ∧ va_D A [(h0, .inr (2, [.ref a0, .ref a1, .ref a2, .ref a3, .ref a4, .int en, wk])), (a0, .inl (cI, 256, .inl (fun k => (bf_st T x y 0 (i)).1 (18 + k)))), (a1, .inl (cI, 256, .inl (fun k => (bf_st T x y 0 (i)).1 (274 + k)))), (a2, .inl (cI, 256, .inl (fun k => (bf_st T x y 0 (i)).1 (530 + k)))), (a3, .inl (cI, 256, .inl (fun k => (bf_st T x y 0 (i)).1 (786 + k)))), (a4, .inl (cI, 18, .inl (bf_st T x y 0 (i)).1))] ∧ va_S A s.heap H locs ∧ lv_has ls 7 [(0, .ref h0), (1, .int (bf_st T x y 0 (i)).2.1), (2, .int (bf_st T x y 0 (i)).2.2), (3, .ref a4), (4, .int (nI 18)), (5, .int (nI (2 * i)))]) (fun _ => 0) (fun _ => 0) 0 (Nat.zero_le _) ⟨hP, hD, hS, hl⟩ (fun H locs ls hI => ?_) (fun i hi ih H locs ls hI => ?_)
  · obtain ⟨hP, hD, hS, hl⟩ := hI
    refine lv_iload hx hb dX2_processTable_7 (lv_at hl 5 rfl) ?_
    refine lv_iload hx hb dX2_processTable_9 (lv_at hl 4 rfl) ?_
    refine lv_icmp_ge (tgt := 108) hx hb dX2_processTable_11 (by decide) (fun _ => ?_) (fun h9 => absurd (nI_le (Nat.le_of_ble_eq_true rfl) (Nat.le_of_ble_eq_true rfl)) h9)
    exact W.vret hx hb hr (fun t ht hW => ⟨⟨(), rfl, trivial, by rw [ht]; exact hP, hD⟩, hS.F ht⟩) hS.2.2 dX2_processTable_108
  · obtain ⟨hP, hD, hS, hl⟩ := hI
    generalize hTn : (bf_st T x y 0 i).1 = Tn at hP hD
    generalize hxn : (bf_st T x y 0 i).2.1 = xn at hl
    generalize hyn : (bf_st T x y 0 i).2.2 = yn at hl
    refine lv_iload hx hb dX2_processTable_7 (lv_at hl 5 rfl) ?_
    refine lv_iload hx hb dX2_processTable_9 (lv_at hl 4 rfl) ?_
    refine lv_icmp_ge (tgt := 108) hx hb dX2_processTable_11 (by decide) (fun h9 => absurd h9 (nI_ge (by omega) (Nat.le_of_ble_eq_true rfl))) (fun _ => ?_)
    refine lv_iload_n hx hb dX2_processTable_14 rfl (lv_at hl 1 rfl) ?_
    refine lv_aload_n hx hb dX2_processTable_15 rfl (lv_at hl 0 rfl) ?_
    refine va_get (D := (dC, dI)) (ci := 2) (v := .ref a4) (C := RX2) (T := TX2) (N := 7) hx hb hts in_X2 hown hK hP 0 rfl rfl 4 (by decide) (hts _ q78) (fun _ h9 => h9) rfl dX2_processTable_16 ?_
    refine lv_iconst (v := 0) hx hb dX2_processTable_19 (by decide) ?_
    refine bf_iald hx hb hK hP 5 1 rfl rfl dX2_processTable_20 0 rfl (Nat.le_of_ble_eq_true rfl) (Nat.le_of_ble_eq_true rfl) ?_
    refine lv_ixor hx hb dX2_processTable_21 ?_
    refine bf_topE (y := (bf_rn Tn Tn xn yn (2 * 0)).1 ^^^ Tn (2 * 0)) rfl ?_
    refine lv_istore_n (lv' := [(1, .int ((bf_rn Tn Tn xn yn (2 * 0)).1 ^^^ Tn (2 * 0))), (0, .ref h0), (2, .int yn), (3, .ref a4), (4, .int (nI 18)), (5, .int (nI (2 * i)))]) hx hb dX2_processTable_22 rfl hl (by decide) rfl (fun ls hl => ?_)
    refine lv_iconst (v := 1) hx hb dX2_processTable_23 (by decide) ?_
    refine lv_istore (lv' := [(6, .int 1), (1, .int ((bf_rn Tn Tn xn yn (2 * 0)).1 ^^^ Tn (2 * 0))), (0, .ref h0), (2, .int yn), (3, .ref a4), (4, .int (nI 18)), (5, .int (nI (2 * i)))]) hx hb dX2_processTable_24 hl (by decide) rfl (fun ls hl => ?_)
    have hl := lv_sub (l' := [(0, .ref h0), (1, .int ((bf_rn Tn Tn xn yn (2 * 0)).1 ^^^ Tn (2 * 0))), (2, .int yn), (3, .ref a4), (4, .int (nI 18)), (5, .int (nI (2 * i))), (6, .int 1)]) hl [2, 1, 3, 4, 5, 6, 0] rfl
    refine bf_while 8 (fun j H locs ls => va_P (dC, dI) vwCl [(h0, .inr (2, [.ref a0, .ref a1, .ref a2, .ref a3, .ref a4, .int en, wk])), (a0, .inl (cI, 256, .inl (fun k => Tn (18 + k)))), (a1, .inl (cI, 256, .inl (fun k => Tn (274 + k)))), (a2, .inl (cI, 256, .inl (fun k => Tn (530 + k)))), (a3, .inl (cI, 256, .inl (fun k => Tn (786 + k)))), (a4, .inl (cI, 18, .inl Tn))] H ∧ va_D A [(h0, .inr (2, [.ref a0, .ref a1, .ref a2, .ref a3, .ref a4, .int en, wk])), (a0, .inl (cI, 256, .inl (fun k => Tn (18 + k)))), (a1, .inl (cI, 256, .inl (fun k => Tn (274 + k)))), (a2, .inl (cI, 256, .inl (fun k => Tn (530 + k)))), (a3, .inl (cI, 256, .inl (fun k => Tn (786 + k)))), (a4, .inl (cI, 18, .inl Tn))] ∧ va_S A s.heap H locs ∧ lv_has ls 7 [(0, .ref h0), (1, .int ((bf_rn Tn Tn xn yn (2 * j)).1 ^^^ Tn (2 * j))), (2, .int (bf_rn Tn Tn xn yn (2 * j)).2), (3, .ref a4), (4, .int (nI 18)), (5, .int (nI (2 * i))), (6, .int (nI (2 * j + 1)))]) (fun _ => 0) (fun _ => 0) 0 (Nat.zero_le _) ⟨hP, hD, hS, hl⟩ (fun H locs ls hI => ?_) (fun j hj jh H locs ls hI => ?_)
    · obtain ⟨hP, hD, hS, hl⟩ := hI
      refine lv_iload hx hb dX2_processTable_26 (lv_at hl 6 rfl) ?_
      refine lv_bipush (v := 16) hx hb dX2_processTable_28 (by decide) ?_
      refine lv_icmp_ge (tgt := 73) hx hb dX2_processTable_30 (by decide) (fun _ => ?_) (fun h9 => absurd (nI_le (a := 16) (b := 2 * 8 + 1) (Nat.le_of_ble_eq_true rfl) (Nat.le_of_ble_eq_true rfl)) h9)
      refine lv_iload_n hx hb dX2_processTable_73 rfl (lv_at hl 2 rfl) ?_
      refine lv_aload_n hx hb dX2_processTable_74 rfl (lv_at hl 0 rfl) ?_
      refine va_get (D := (dC, dI)) (ci := 2) (v := .ref a4) (C := RX2) (T := TX2) (N := 7) hx hb hts in_X2 hown hK hP 0 rfl rfl 4 (by decide) (hts _ q78) (fun _ h9 => h9) rfl dX2_processTable_75 ?_
      refine lv_bipush (v := 17) hx hb dX2_processTable_78 (by decide) ?_
      refine bf_iald hx hb hK hP 5 1 rfl rfl dX2_processTable_80 17 rfl (Nat.le_of_ble_eq_true rfl) (Nat.le_of_ble_eq_true rfl) ?_
      refine lv_ixor hx hb dX2_processTable_81 ?_
      refine bf_topE (y := (bf_cr Tn Tn xn yn).1) rfl ?_
      refine lv_istore_n (lv' := [(2, .int ((bf_cr Tn Tn xn yn).1)), (0, .ref h0), (1, .int ((bf_rn Tn Tn xn yn (2 * 8)).1 ^^^ Tn (2 * 8))), (3, .ref a4), (4, .int (nI 18)), (5, .int (nI (2 * i))), (6, .int (nI (2 * 8 + 1)))]) hx hb dX2_processTable_82 rfl hl (by decide) rfl (fun ls hl => ?_)
      have hl := lv_sub (l' := [(0, .ref h0), (1, .int (bf_cr Tn Tn xn yn).2), (2, .int (bf_cr Tn Tn xn yn).1), (3, .ref a4), (4, .int (nI 18)), (5, .int (nI (2 * i)))]) hl [1, 2, 0, 3, 4, 5] rfl
      refine lv_aload_n hx hb dX2_processTable_83 rfl (lv_at hl 3 rfl) ?_
      refine lv_iload hx hb dX2_processTable_84 (lv_at hl 5 rfl) ?_
      refine lv_iload_n hx hb dX2_processTable_86 rfl (lv_at hl 2 rfl) ?_
      refine bf_iast hx hb hK hP hD hS 5 1 rfl rfl dX2_processTable_87 (2 * i) rfl (by omega) (Nat.le_of_ble_eq_true rfl) (fun H locs hP hD hS => ?_)
      have hP : va_P (dC, dI) vwCl [(h0, .inr (2, [.ref a0, .ref a1, .ref a2, .ref a3, .ref a4, .int en, wk])), (a0, .inl (cI, 256, .inl (fun k => Tn (18 + k)))), (a1, .inl (cI, 256, .inl (fun k => Tn (274 + k)))), (a2, .inl (cI, 256, .inl (fun k => Tn (530 + k)))), (a3, .inl (cI, 256, .inl (fun k => Tn (786 + k)))), (a4, .inl (cI, 18, .inl (upd Tn (2 * i) ((bf_cr Tn Tn xn yn).1))))] H := hP
      have hD : va_D A [(h0, .inr (2, [.ref a0, .ref a1, .ref a2, .ref a3, .ref a4, .int en, wk])), (a0, .inl (cI, 256, .inl (fun k => Tn (18 + k)))), (a1, .inl (cI, 256, .inl (fun k => Tn (274 + k)))), (a2, .inl (cI, 256, .inl (fun k => Tn (530 + k)))), (a3, .inl (cI, 256, .inl (fun k => Tn (786 + k)))), (a4, .inl (cI, 18, .inl (upd Tn (2 * i) ((bf_cr Tn Tn xn yn).1))))] := hD
      have hP := bf_upd_4 (wz := []) (by omega) hP
      have hD := bf_D.re (ws' := [(h0, .inr (2, [.ref a0, .ref a1, .ref a2, .ref a3, .ref a4, .int en, wk])), (a0, .inl (cI, 256, .inl (fun k => (upd Tn (2 * i) (bf_cr Tn Tn xn yn).1) (18 + k)))), (a1, .inl (cI, 256, .inl (fun k => (upd Tn (2 * i) (bf_cr Tn Tn xn yn).1) (274 + k)))), (a2, .inl (cI, 256, .inl (fun k => (upd Tn (2 * i) (bf_cr Tn Tn xn yn).1) (530 + k)))), (a3, .inl (cI, 256, .inl (fun k => (upd Tn (2 * i) (bf_cr Tn Tn xn yn).1) (786 + k)))), (a4, .inl (cI, 18, .inl (upd Tn (2 * i) (bf_cr Tn Tn xn yn).1)))]) hD [h0, a0, a1, a2, a3, a4] rfl rfl
      have hP : va_P (dC, dI) vwCl [(h0, .inr (2, [.ref a0, .ref a1, .ref a2, .ref a3, .ref a4, .int en, wk])), (a0, .inl (cI, 256, .inl (fun k => (upd Tn (2 * i) (bf_cr Tn Tn xn yn).1) (18 + k)))), (a1, .inl (cI, 256, .inl (fun k => (upd Tn (2 * i) (bf_cr Tn Tn xn yn).1) (274 + k)))), (a2, .inl (cI, 256, .inl (fun k => (upd Tn (2 * i) (bf_cr Tn Tn xn yn).1) (530 + k)))), (a3, .inl (cI, 256, .inl (fun k => (upd Tn (2 * i) (bf_cr Tn Tn xn yn).1) (786 + k)))), (a4, .inl (cI, 18, .inl (upd Tn (2 * i) (bf_cr Tn Tn xn yn).1)))] H := hP
      have hD : va_D A [(h0, .inr (2, [.ref a0, .ref a1, .ref a2, .ref a3, .ref a4, .int en, wk])), (a0, .inl (cI, 256, .inl (fun k => (upd Tn (2 * i) (bf_cr Tn Tn xn yn).1) (18 + k)))), (a1, .inl (cI, 256, .inl (fun k => (upd Tn (2 * i) (bf_cr Tn Tn xn yn).1) (274 + k)))), (a2, .inl (cI, 256, .inl (fun k => (upd Tn (2 * i) (bf_cr Tn Tn xn yn).1) (530 + k)))), (a3, .inl (cI, 256, .inl (fun k => (upd Tn (2 * i) (bf_cr Tn Tn xn yn).1) (786 + k)))), (a4, .inl (cI, 18, .inl (upd Tn (2 * i) (bf_cr Tn Tn xn yn).1)))] := hD
      refine lv_aload_n hx hb dX2_processTable_88 rfl (lv_at hl 3 rfl) ?_
      refine lv_iload hx hb dX2_processTable_89 (lv_at hl 5 rfl) ?_
      refine lv_iconst (v := 1) hx hb dX2_processTable_91 (by decide) ?_
      refine lv_iadd hx hb dX2_processTable_92 ?_
      refine lv_iload_n hx hb dX2_processTable_93 rfl (lv_at hl 1 rfl) ?_
      refine bf_iast hx hb hK hP hD hS 5 1 rfl rfl dX2_processTable_94 (2 * i + 1) (nI_add (2 * i) 1) (by omega) (Nat.le_of_ble_eq_true rfl) (fun H locs hP hD hS => ?_)
      have hP : va_P (dC, dI) vwCl [(h0, .inr (2, [.ref a0, .ref a1, .ref a2, .ref a3, .ref a4, .int en, wk])), (a0, .inl (cI, 256, .inl (fun k => (upd Tn (2 * i) (bf_cr Tn Tn xn yn).1) (18 + k)))), (a1, .inl (cI, 256, .inl (fun k => (upd Tn (2 * i) (bf_cr Tn Tn xn yn).1) (274 + k)))), (a2, .inl (cI, 256, .inl (fun k => (upd Tn (2 * i) (bf_cr Tn Tn xn yn).1) (530 + k)))), (a3, .inl (cI, 256, .inl (fun k => (upd Tn (2 * i) (bf_cr Tn Tn xn yn).1) (786 + k)))), (a4, .inl (cI, 18, .inl (upd (upd Tn (2 * i) (bf_cr Tn Tn xn yn).1) (2 * i + 1) ((bf_cr Tn Tn xn yn).2))))] H := hP
      have hD : va_D A [(h0, .inr (2, [.ref a0, .ref a1, .ref a2, .ref a3, .ref a4, .int en, wk])), (a0, .inl (cI, 256, .inl (fun k => (upd Tn (2 * i) (bf_cr Tn Tn xn yn).1) (18 + k)))), (a1, .inl (cI, 256, .inl (fun k => (upd Tn (2 * i) (bf_cr Tn Tn xn yn).1) (274 + k)))), (a2, .inl (cI, 256, .inl (fun k => (upd Tn (2 * i) (bf_cr Tn Tn xn yn).1) (530 + k)))), (a3, .inl (cI, 256, .inl (fun k => (upd Tn (2 * i) (bf_cr Tn Tn xn yn).1) (786 + k)))), (a4, .inl (cI, 18, .inl (upd (upd Tn (2 * i) (bf_cr Tn Tn xn yn).1) (2 * i + 1) ((bf_cr Tn Tn xn yn).2))))] := hD
      have hP := bf_upd_4 (wz := []) (by omega) hP
      have hD := bf_D.re (ws' := [(h0, .inr (2, [.ref a0, .ref a1, .ref a2, .ref a3, .ref a4, .int en, wk])), (a0, .inl (cI, 256, .inl (fun k => (upd (upd Tn (2 * i) (bf_cr Tn Tn xn yn).1) (2 * i + 1) (bf_cr Tn Tn xn yn).2) (18 + k)))), (a1, .inl (cI, 256, .inl (fun k => (upd (upd Tn (2 * i) (bf_cr Tn Tn xn yn).1) (2 * i + 1) (bf_cr Tn Tn xn yn).2) (274 + k)))), (a2, .inl (cI, 256, .inl (fun k => (upd (upd Tn (2 * i) (bf_cr Tn Tn xn yn).1) (2 * i + 1) (bf_cr Tn Tn xn yn).2) (530 + k)))), (a3, .inl (cI, 256, .inl (fun k => (upd (upd Tn (2 * i) (bf_cr Tn Tn xn yn).1) (2 * i + 1) (bf_cr Tn Tn xn yn).2) (786 + k)))), (a4, .inl (cI, 18, .inl (upd (upd Tn (2 * i) (bf_cr Tn Tn xn yn).1) (2 * i + 1) (bf_cr Tn Tn xn yn).2)))]) hD [h0, a0, a1, a2, a3, a4] rfl rfl
      have hP : va_P (dC, dI) vwCl [(h0, .inr (2, [.ref a0, .ref a1, .ref a2, .ref a3, .ref a4, .int en, wk])), (a0, .inl (cI, 256, .inl (fun k => (upd (upd Tn (2 * i) (bf_cr Tn Tn xn yn).1) (2 * i + 1) (bf_cr Tn Tn xn yn).2) (18 + k)))), (a1, .inl (cI, 256, .inl (fun k => (upd (upd Tn (2 * i) (bf_cr Tn Tn xn yn).1) (2 * i + 1) (bf_cr Tn Tn xn yn).2) (274 + k)))), (a2, .inl (cI, 256, .inl (fun k => (upd (upd Tn (2 * i) (bf_cr Tn Tn xn yn).1) (2 * i + 1) (bf_cr Tn Tn xn yn).2) (530 + k)))), (a3, .inl (cI, 256, .inl (fun k => (upd (upd Tn (2 * i) (bf_cr Tn Tn xn yn).1) (2 * i + 1) (bf_cr Tn Tn xn yn).2) (786 + k)))), (a4, .inl (cI, 18, .inl (upd (upd Tn (2 * i) (bf_cr Tn Tn xn yn).1) (2 * i + 1) (bf_cr Tn Tn xn yn).2)))] H := hP
      have hD : va_D A [(h0, .inr (2, [.ref a0, .ref a1, .ref a2, .ref a3, .ref a4, .int en, wk])), (a0, .inl (cI, 256, .inl (fun k => (upd (upd Tn (2 * i) (bf_cr Tn Tn xn yn).1) (2 * i + 1) (bf_cr Tn Tn xn yn).2) (18 + k)))), (a1, .inl (cI, 256, .inl (fun k => (upd (upd Tn (2 * i) (bf_cr Tn Tn xn yn).1) (2 * i + 1) (bf_cr Tn Tn xn yn).2) (274 + k)))), (a2, .inl (cI, 256, .inl (fun k => (upd (upd Tn (2 * i) (bf_cr Tn Tn xn yn).1) (2 * i + 1) (bf_cr Tn Tn xn yn).2) (530 + k)))), (a3, .inl (cI, 256, .inl (fun k => (upd (upd Tn (2 * i) (bf_cr Tn Tn xn yn).1) (2 * i + 1) (bf_cr Tn Tn xn yn).2) (786 + k)))), (a4, .inl (cI, 18, .inl (upd (upd Tn (2 * i) (bf_cr Tn Tn xn yn).1) (2 * i + 1) (bf_cr Tn Tn xn yn).2)))] := hD
      refine lv_iload_n hx hb dX2_processTable_95 rfl (lv_at hl 1 rfl) ?_
      refine lv_istore_n (lv' := [(2, .int (bf_cr Tn Tn xn yn).2), (0, .ref h0), (1, .int (bf_cr Tn Tn xn yn).2), (3, .ref a4), (4, .int (nI 18)), (5, .int (nI (2 * i)))]) hx hb dX2_processTable_96 rfl hl (by decide) rfl (fun ls hl => ?_)
      refine lv_aload_n hx hb dX2_processTable_97 rfl (lv_at hl 3 rfl) ?_
      refine lv_iload hx hb dX2_processTable_98 (lv_at hl 5 rfl) ?_
      refine bf_iald hx hb hK hP 5 1 rfl rfl dX2_processTable_100 (2 * i) rfl (by omega) (Nat.le_of_ble_eq_true rfl) ?_
      refine bf_topE (y := (bf_cr Tn Tn xn yn).1) (by show upd (upd Tn (2 * i) _) (2 * i + 1) _ (2 * i) = _; rw [pk_un (by omega), pk_us]) ?_
      refine lv_istore_n (lv' := [(1, .int ((bf_cr Tn Tn xn yn).1)), (2, .int (bf_cr Tn Tn xn yn).2), (0, .ref h0), (3, .ref a4), (4, .int (nI 18)), (5, .int (nI (2 * i)))]) hx hb dX2_processTable_101 rfl hl (by decide) rfl (fun ls hl => ?_)
      refine lv_iinc (v := nI (2 * (i + 1))) (lv' := [(5, .int (nI (2 * (i + 1)))), (1, .int ((bf_cr Tn Tn xn yn).1)), (2, .int (bf_cr Tn Tn xn yn).2), (0, .ref h0), (3, .ref a4), (4, .int (nI 18))]) hx hb dX2_processTable_102 hl (k := 5) rfl (by rw [show 2 * (i + 1) = 2 * i + 2 by omega]; exact nI_add (2 * i) 2) (by decide) rfl (fun ls hl => ?_)
      refine lv_goto (tgt := 7) hx hb dX2_processTable_105 (by decide) ?_
      subst hTn; subst hxn; subst hyn
      have e0 : (bf_st T x y 0 (i + 1)).1 = upd (upd (bf_st T x y 0 i).1 (2 * i) (bf_cr (bf_st T x y 0 i).1 (bf_st T x y 0 i).1 (bf_st T x y 0 i).2.1 (bf_st T x y 0 i).2.2).1) (2 * i + 1) (bf_cr (bf_st T x y 0 i).1 (bf_st T x y 0 i).1 (bf_st T x y 0 i).2.1 (bf_st T x y 0 i).2.2).2 := by
        show upd (upd _ (0 + 2 * i) _) (0 + 2 * i + 1) _ = _
        rw [Nat.zero_add]
      rw [← e0] at hP hD
      refine ih H locs ls ⟨?_, ?_, hS, ?_⟩
      · exact hP
      · exact hD
      · exact lv_sub hl [3, 1, 2, 4, 5, 0] rfl
    · obtain ⟨hP, hD, hS, hl⟩ := hI
      refine lv_iload hx hb dX2_processTable_26 (lv_at hl 6 rfl) ?_
      refine lv_bipush (v := 16) hx hb dX2_processTable_28 (by decide) ?_
      refine lv_icmp_ge (tgt := 73) hx hb dX2_processTable_30 (by decide) (fun h9 => absurd h9 (nI_ge (a := 2 * j + 1) (b := 16) (by omega) (Nat.le_of_ble_eq_true rfl))) (fun _ => ?_)
      refine lv_iload_n hx hb dX2_processTable_33 rfl (lv_at hl 2 rfl) ?_
      refine lv_aload_n hx hb dX2_processTable_34 rfl (lv_at hl 0 rfl) ?_
      refine lv_iload_n hx hb dX2_processTable_35 rfl (lv_at hl 1 rfl) ?_
      refine bf_calli (va_Run.run (va_runV (As := [.int ((bf_rn Tn Tn xn yn (2 * j)).1 ^^^ Tn (2 * j))]) (rest := [.int (bf_rn Tn Tn xn yn (2 * j)).2]) ⟨hx, hb, hml, hown, hts⟩ (met_X2_F l dC dI cB cI h0 a0 a1 a2 a3 a4 en wk Tn ((bf_rn Tn Tn xn yn (2 * j)).1 ^^^ Tn (2 * j))) (cwV 1 hts (lw_V q218 q220 qs4 q16 q221) rfl rfl rfl (by decide +kernel) ⟨Nat.le_of_ble_eq_true rfl, Nat.le_of_ble_eq_true rfl⟩) (bf_rdV hK hP [0, 1, 2, 3, 4] rfl (ci := 2) (q0 := 0) rfl rfl) rfl rfl hl.1 rfl (lv_room (Nat.le_of_ble_eq_true rfl)) dX2_processTable_36 ⟨Nat.le_of_ble_eq_true rfl, Nat.le_of_ble_eq_true rfl⟩)) ?_
      refine lv_aload_n hx hb dX2_processTable_39 rfl (lv_at hl 0 rfl) ?_
      refine va_get (D := (dC, dI)) (ci := 2) (v := .ref a4) (C := RX2) (T := TX2) (N := 7) hx hb hts in_X2 hown hK hP 0 rfl rfl 4 (by decide) (hts _ q78) (fun _ h9 => h9) rfl dX2_processTable_40 ?_
      refine lv_iload hx hb dX2_processTable_43 (lv_at hl 6 rfl) ?_
      refine bf_iald hx hb hK hP 5 1 rfl rfl dX2_processTable_45 (2 * j + 1) rfl (by omega) (Nat.le_of_ble_eq_true rfl) ?_
      refine lv_ixor hx hb dX2_processTable_46 ?_
      refine lv_ixor hx hb dX2_processTable_47 ?_
      refine bf_topE (y := (bf_rn Tn Tn xn yn (2 * j + 2)).2) (bf_two1 _ _ _ _ _) ?_
      refine lv_istore_n (lv' := [(2, .int ((bf_rn Tn Tn xn yn (2 * j + 2)).2)), (0, .ref h0), (1, .int ((bf_rn Tn Tn xn yn (2 * j)).1 ^^^ Tn (2 * j))), (3, .ref a4), (4, .int (nI 18)), (5, .int (nI (2 * i))), (6, .int (nI (2 * j + 1)))]) hx hb dX2_processTable_48 rfl hl (by decide) rfl (fun ls hl => ?_)
      refine lv_iload_n hx hb dX2_processTable_49 rfl (lv_at hl 2 rfl) ?_
      refine lv_aload_n hx hb dX2_processTable_50 rfl (lv_at hl 1 rfl) ?_
      refine lv_iload_n hx hb dX2_processTable_51 rfl (lv_at hl 0 rfl) ?_
      refine bf_calli (va_Run.run (va_runV (As := [.int ((bf_rn Tn Tn xn yn (2 * j + 2)).2)]) (rest := [.int ((bf_rn Tn Tn xn yn (2 * j)).1 ^^^ Tn (2 * j))]) ⟨hx, hb, hml, hown, hts⟩ (met_X2_F l dC dI cB cI h0 a0 a1 a2 a3 a4 en wk Tn ((bf_rn Tn Tn xn yn (2 * j + 2)).2)) (cwV 1 hts (lw_V q218 q220 qs4 q16 q221) rfl rfl rfl (by decide +kernel) ⟨Nat.le_of_ble_eq_true rfl, Nat.le_of_ble_eq_true rfl⟩) (bf_rdV hK hP [0, 1, 2, 3, 4] rfl (ci := 2) (q0 := 0) rfl rfl) rfl rfl hl.1 rfl (lv_room (Nat.le_of_ble_eq_true rfl)) dX2_processTable_52 ⟨Nat.le_of_ble_eq_true rfl, Nat.le_of_ble_eq_true rfl⟩)) ?_
      refine lv_aload_n hx hb dX2_processTable_55 rfl (lv_at hl 1 rfl) ?_
      refine va_get (D := (dC, dI)) (ci := 2) (v := .ref a4) (C := RX2) (T := TX2) (N := 7) hx hb hts in_X2 hown hK hP 0 rfl rfl 4 (by decide) (hts _ q78) (fun _ h9 => h9) rfl dX2_processTable_56 ?_
      refine lv_iload hx hb dX2_processTable_59 (lv_at hl 6 rfl) ?_
      refine lv_iconst (v := 1) hx hb dX2_processTable_61 (by decide) ?_
      refine lv_iadd hx hb dX2_processTable_62 ?_
      refine bf_iald hx hb hK hP 5 1 rfl rfl dX2_processTable_63 (2 * j + 2) (nI_add (2 * j + 1) 1) (by omega) (Nat.le_of_ble_eq_true rfl) ?_
      refine lv_ixor hx hb dX2_processTable_64 ?_
      refine lv_ixor hx hb dX2_processTable_65 ?_
      refine bf_topE (y := (bf_rn Tn Tn xn yn (2 * j + 2)).1 ^^^ Tn (2 * j + 2)) (bf_two2 _ _ _ _ _) ?_
      refine lv_istore_n (lv' := [(1, .int ((bf_rn Tn Tn xn yn (2 * j + 2)).1 ^^^ Tn (2 * j + 2))), (2, .int ((bf_rn Tn Tn xn yn (2 * j + 2)).2)), (0, .ref h0), (3, .ref a4), (4, .int (nI 18)), (5, .int (nI (2 * i))), (6, .int (nI (2 * j + 1)))]) hx hb dX2_processTable_66 rfl hl (by decide) rfl (fun ls hl => ?_)
      refine lv_iinc (v := nI (2 * (j + 1) + 1)) (lv' := [(6, .int (nI (2 * (j + 1) + 1))), (1, .int ((bf_rn Tn Tn xn yn (2 * j + 2)).1 ^^^ Tn (2 * j + 2))), (2, .int ((bf_rn Tn Tn xn yn (2 * j + 2)).2)), (0, .ref h0), (3, .ref a4), (4, .int (nI 18)), (5, .int (nI (2 * i)))]) hx hb dX2_processTable_67 hl (k := 6) rfl (by rw [show 2 * (j + 1) + 1 = 2 * j + 1 + 2 by omega]; exact nI_add (2 * j + 1) 2) (by decide) rfl (fun ls hl => ?_)
      refine lv_goto (tgt := 26) hx hb dX2_processTable_70 (by decide) ?_
      exact jh H locs ls ⟨hP, hD, hS, lv_sub hl [3, 1, 2, 4, 5, 6, 0] rfl⟩
end
section
/-! what a method is told of the static tables and of the interface, beside its own cells -/
theorem bf_nfw : nativeFrameWords "java/lang/System" "arraycopy" 5 = 7 := by decide +kernel
def xI_init : MethodName := ⟨"BlockCipher", "init", "(ZLCipherParameters;)V"⟩
def xI_pb : MethodName := ⟨"BlockCipher", "processBlock", "([BI[BI)I"⟩
/-- a static table of ints, by its field and its contents -/
def bfS (C n : String) (t N : Nat) (f : Nat → Int32) (A : Nat → Prop) (U : State) (H : Heap) : Prop := va_Z C n "[I" (.ref t) A U H ∧ va_T .int t N (fun j => .int (f j)) A U H
def bfX (tS : Nat → Nat) (A : Nat → Prop) (U : State) (H : Heap) : Prop :=
  bfS "BlowfishEngine" "KS0" (tS 0) 256 (fun j => bf_PI (18 + j)) A U H ∧ bfS "BlowfishEngine" "KS1" (tS 1) 256 (fun j => bf_PI (274 + j)) A U H ∧ bfS "BlowfishEngine" "KS2" (tS 2) 256 (fun j => bf_PI (530 + j)) A U H ∧ bfS "BlowfishEngine" "KS3" (tS 3) 256 (fun j => bf_PI (786 + j)) A U H ∧ bfS "BlowfishEngine" "KP" (tS 4) 18 bf_PI A U H ∧ bfS "BlowfishDeskModel" "PI" (tS 5) 1042 bf_PI A U H ∧ va_Fw "BlowfishEngine" xI_init yX2_init_2 U ∧ va_Fw "BlowfishEngine" xI_pb yX2_processBlock U
theorem bfS.at {C n : String} {t N : Nat} {f : Nat → Int32} {A0 A1 : Nat → Prop} {s U : State} {H : Heap} {locs : List Loc} (h : bfS C n t N f A0 s s.heap) (hS : va_S A0 s.heap H locs) (hA : ∀ q, A1 q → A0 q) (hvm : s.vm.Alike U.vm) (hU : U.heap = H) : bfS C n t N f A1 U U.heap := by
  rw [hU]
  exact ⟨((h.1.kept hS.2.1).narrow hA).moved hvm, ((h.2.kept hS.2.1).narrow hA).moved hvm⟩
theorem bfX.at {tS : Nat → Nat} {A0 A1 : Nat → Prop} {s U : State} {H : Heap} {locs : List Loc} (h : bfX tS A0 s s.heap) (hS : va_S A0 s.heap H locs) (hA : ∀ q, A1 q → A0 q) (hvm : s.vm.Alike U.vm) (hU : U.heap = H) : bfX tS A1 U U.heap := by
  obtain ⟨h0, h1, h2, h3, h4, h5, h6, h7⟩ := h
  exact ⟨h0.at hS hA hvm hU, h1.at hS hA hvm hU, h2.at hS hA hvm hU, h3.at hS hA hvm hU, h4.at hS hA hvm hU, h5.at hS hA hvm hU, va_Fw.moved (by decide +kernel) hvm h6, va_Fw.moved (by decide +kernel) hvm h7⟩
/-- a method's start, with the tables -/
def bfPreX (D : va_G) (cB cI : ClassId) (tS : Nat → Nat) (ws : va_W) (sz : Nat) (U : State) : Prop := bfPre D cB cI ws sz U ∧ bfX tS (va_A ws sz) U U.heap
theorem bf_blindX {D : va_G} {cB cI : ClassId} {tS : Nat → Nat} {ws : va_W} {sz : Nat} {av : List Value} : FrameBlind (va_Pc av (bfPreX D cB cI tS ws sz)) := by
  intro a U g mk q
  obtain ⟨q0, ⟨q1, qP, qK, qD⟩, qX⟩ := q
  exact ⟨q0, ⟨q1, qP, va_K.moved (u := U) (U := U.calling g mk a) (Vm.Alike.refl U.vm) qK, qD⟩, bfX.at (s := U) (U := U.calling g mk a) qX va_S.rf (fun _ h => h) (Vm.Alike.refl U.vm) rfl⟩
section BFX
variable {s : State} {H : Heap} {locs : List Loc} {D : va_G} {A : Nat → Prop} {cB cI : ClassId} {ws wc : va_W} {tS : Nat → Nat}
theorem bf_preSX (hK : va_K D vwCl (bfT cB cI) s) (hP : va_P D vwCl ws H) (hD : va_D A ws) (isC : List Nat) (hn : va_nd isC = true) (hC : isC.map (fun i => ws[i]?) = wc.map some) {As : List Value} (hX : bfX tS A s s.heap) (hS : va_S A s.heap H locs) (hA : ∀ q, s.heap.size ≤ q → A q) : PreS s H (va_Pc As (bfPreX D cB cI tS wc H.size)) As := by
  have h1 := bf_preS hK hP hD isC hn hC (As := As)
  have hF := va_free (wc := wc) hD hS hA isC hC
  exact ⟨bf_blindX, fun U hU hW => ⟨(h1.2 U hU hW).1, (h1.2 U hU hW).2, hX.at hS hF hW.alike hU⟩⟩
theorem bf_preVX (hK : va_K D vwCl (bfT cB cI) s) (hP : va_P D vwCl ws H) (hD : va_D A ws) (isC : List Nat) (hn : va_nd isC = true) (hC : isC.map (fun i => ws[i]?) = wc.map some) {As : List Value} {b : Nat} {ci : Nat} {cq : vw_C} {q0 : Nat} {fs : List Value} (hc : vwCl[ci]? = some cq) (he : ws[q0]? = some (b, .inr (ci, fs))) (hX : bfX tS A s s.heap) (hS : va_S A s.heap H locs) (hA : ∀ q, s.heap.size ≤ q → A q) : PreV s H cq.1 b (va_Pc (.ref b :: As) (bfPreX D cB cI tS wc H.size)) As :=
  ⟨bf_blindX, va_recv hK hP hc he, (bf_preSX hK hP hD isC hn hC hX hS hA).2⟩
end BFX
theorem bf_mod1 {a n : Nat} (hn : 0 < n) : (a + 1) % n = if a % n + 1 < n then a % n + 1 else 0 := by
  have h1 : a % n < n := Nat.mod_lt _ hn
  rw [← Nat.mod_add_mod]
  by_cases h : a % n + 1 < n
  · rw [if_pos h, Nat.mod_eq_of_lt h]
  · rw [if_neg h, show a % n + 1 = n by omega, Nat.mod_self]
end
section
/-! BlowfishEngine: encryptBlock, decryptBlock, processBlock, the constructor, setKey, init; KeyParameter -/
set_option maxHeartbeats 4000000 in
set_option maxRecDepth 100000 in
/-- encryptBlock(block, 0, out, 0) -/
theorem met_X2_encryptBlock (l : Launch) (dC : Nat → ClassId) (dI : Nat → Nat → Nat) (cB cI : ClassId) (sz : Nat) (h0 a0 a1 a2 a3 a4 bb ob : Nat) (en : Int32) (wk : Value) (T B O : Nat → Int32) : Met l yX2_encryptBlock (ws_ yX2_encryptBlock cX2_encryptBlock 8 none) ({ frames := 1, cells := 0, slots := 0, locals := 23 }) (va_Pc [.ref h0, .ref bb, .int 0, .ref ob, .int 0] (bfPre (dC, dI) cB cI [(h0, .inr (2, [.ref a0, .ref a1, .ref a2, .ref a3, .ref a4, .int en, wk])), (a0, .inl (cI, 256, .inl (fun k => T (18 + k)))), (a1, .inl (cI, 256, .inl (fun k => T (274 + k)))), (a2, .inl (cI, 256, .inl (fun k => T (530 + k)))), (a3, .inl (cI, 256, .inl (fun k => T (786 + k)))), (a4, .inl (cI, 18, .inl T)), (bb, .inl (cB, 8, .inl B)), (ob, .inl (cB, 8, .inl O))] sz)) (va_Qv (fun _ : Unit => True) (fun _ t => bfPost (dC, dI) [(h0, .inr (2, [.ref a0, .ref a1, .ref a2, .ref a3, .ref a4, .int en, wk])), (a0, .inl (cI, 256, .inl (fun k => T (18 + k)))), (a1, .inl (cI, 256, .inl (fun k => T (274 + k)))), (a2, .inl (cI, 256, .inl (fun k => T (530 + k)))), (a3, .inl (cI, 256, .inl (fun k => T (786 + k)))), (a4, .inl (cI, 18, .inl T)), (bb, .inl (cB, 8, .inl B)), (ob, .inl (cB, 8, .inl (bf_put (bf_put O 0 (bf_cr T T (bf_wd B 0 4) (bf_wd B 4 4)).1) 4 (bf_cr T T (bf_wd B 0 4) (bf_wd B 4 4)).2)))] (va_A [(h0, .inr (2, [.ref a0, .ref a1, .ref a2, .ref a3, .ref a4, .int en, wk])), (a0, .inl (cI, 256, .inl (fun k => T (18 + k)))), (a1, .inl (cI, 256, .inl (fun k => T (274 + k)))), (a2, .inl (cI, 256, .inl (fun k => T (530 + k)))), (a3, .inl (cI, 256, .inl (fun k => T (786 + k)))), (a4, .inl (cI, 18, .inl T)), (bb, .inl (cB, 8, .inl B)), (ob, .inl (cB, 8, .inl O))] sz) t) (va_A [(h0, .inr (2, [.ref a0, .ref a1, .ref a2, .ref a3, .ref a4, .int en, wk])), (a0, .inl (cI, 256, .inl (fun k => T (18 + k)))), (a1, .inl (cI, 256, .inl (fun k => T (274 + k)))), (a2, .inl (cI, 256, .inl (fun k => T (530 + k)))), (a3, .inl (cI, 256, .inl (fun k => T (786 + k)))), (a4, .inl (cI, 18, .inl T)), (bb, .inl (cB, 8, .inl B)), (ob, .inl (cB, 8, .inl O))] sz)) 0 0 (va_A [(h0, .inr (2, [.ref a0, .ref a1, .ref a2, .ref a3, .ref a4, .int en, wk])), (a0, .inl (cI, 256, .inl (fun k => T (18 + k)))), (a1, .inl (cI, 256, .inl (fun k => T (274 + k)))), (a2, .inl (cI, 256, .inl (fun k => T (530 + k)))), (a3, .inl (cI, 256, .inl (fun k => T (786 + k)))), (a4, .inl (cI, 18, .inl T)), (bb, .inl (cB, 8, .inl B)), (ob, .inl (cB, 8, .inl O))] sz) := by
  refine Met.ofW (cc := cX2_encryptBlock) (maxL := 8) (ret := none) (by decide) rfl ?_
  intro p e s m args below meth c s₁ hBo hml hv
  obtain ⟨rfl, hsz, hP, hK, hD0⟩ := hv
  have hx := hBo.exec
  have hb := hBo.bytes
  have hr := hBo.returns
  have hts := atoms_spec (ws := (ws_ yX2_encryptBlock cX2_encryptBlock 8 none)) hBo.pre
  have hts : ∀ w ∈ lw_all, w.before _ s = true := fun w h => hts w (List.mem_cons_of_mem _ h)
  have hown : s.vm.findClass RX2 = some m.cls := findClass_of_methodNamed hBo.named
  have hlocks := hBo.notSynchronized
  subst hsz
  have hD := hD0.self (sz := s.heap.size)
  generalize hAe : va_A [(h0, .inr (2, [.ref a0, .ref a1, .ref a2, .ref a3, .ref a4, .int en, wk])), (a0, .inl (cI, 256, .inl (fun k => T (18 + k)))), (a1, .inl (cI, 256, .inl (fun k => T (274 + k)))), (a2, .inl (cI, 256, .inl (fun k => T (530 + k)))), (a3, .inl (cI, 256, .inl (fun k => T (786 + k)))), (a4, .inl (cI, 18, .inl T)), (bb, .inl (cB, 8, .inl B)), (ob, .inl (cB, 8, .inl O))] s.heap.size = A at hD ⊢
  have hA : ∀ q : Nat, s.heap.size ≤ q → A q := fun q h => by rw [← hAe]; exact Or.inr h
  have hS : va_S A s.heap s.heap [] := va_S.rf
  have hl := lv_entry ([.ref h0, .ref bb, .int 0, .ref ob, .int 0]) (n := 8) (Nat.le_of_ble_eq_true rfl)
  rw [lg_entry_eq]
  generalize (lg_sl ([.ref h0, .ref bb, .int 0, .ref ob, .int 0]) ++ List.replicate (8 - (lg_sl ([.ref h0, .ref bb, .int 0, .ref ob, .int 0])).length) Slot.unset).toArray = ls at hl ⊢
  have hl : lv_has ls 8 [(0, .ref h0), (1, .ref bb), (2, .int 0), (3, .ref ob), (4, .int 0)] := hl
  refine lv_aload_n hx hb dX2_encryptBlock_0 rfl (lv_at hl 0 rfl) ?_
  refine lv_aload_n hx hb dX2_encryptBlock_1 rfl (lv_at hl 1 rfl) ?_
  refine lv_iload_n hx hb dX2_encryptBlock_2 rfl (lv_at hl 2 rfl) ?_
  refine bf_topE (y := nI 0) rfl ?_
  refine bf_calli (va_Run.run (va_runV (As := [.ref bb, .int (nI 0)]) (rest := []) ⟨hx, hb, hml, hown, hts⟩ (met_X2_BytesTo32bits l dC dI cB cI h0 bb 8 0 B (Nat.le_of_ble_eq_true rfl) (Nat.le_of_ble_eq_true rfl)) (cwV 2 hts (lw_V q289 q291 qs6 q16 q292) rfl rfl rfl (by decide +kernel) ⟨Nat.le_of_ble_eq_true rfl, Nat.le_of_ble_eq_true rfl⟩) (bf_rdV hK hP [6] rfl (ci := 2) (q0 := 0) rfl rfl) rfl rfl hl.1 rfl (lv_room (Nat.le_of_ble_eq_true rfl)) dX2_encryptBlock_3 ⟨Nat.le_of_ble_eq_true rfl, Nat.le_of_ble_eq_true rfl⟩)) ?_
  refine lv_istore (lv' := [(5, .int (bf_wd B 0 4)), (0, .ref h0), (1, .ref bb), (2, .int 0), (3, .ref ob), (4, .int 0)]) hx hb dX2_encryptBlock_6 hl (by decide) rfl (fun ls hl => ?_)
  refine lv_aload_n hx hb dX2_encryptBlock_8 rfl (lv_at hl 1 rfl) ?_
  refine lv_aload_n hx hb dX2_encryptBlock_9 rfl (lv_at hl 2 rfl) ?_
  refine lv_iload_n hx hb dX2_encryptBlock_10 rfl (lv_at hl 3 rfl) ?_
  refine lv_iconst (v := 4) hx hb dX2_encryptBlock_11 (by decide) ?_
  refine lv_iadd hx hb dX2_encryptBlock_12 ?_
  refine bf_topE (y := nI 4) (by decide) ?_
  refine bf_calli (va_Run.run (va_runV (As := [.ref bb, .int (nI 4)]) (rest := []) ⟨hx, hb, hml, hown, hts⟩ (met_X2_BytesTo32bits l dC dI cB cI h0 bb 8 4 B (Nat.le_of_ble_eq_true rfl) (Nat.le_of_ble_eq_true rfl)) (cwV 2 hts (lw_V q289 q291 qs6 q16 q292) rfl rfl rfl (by decide +kernel) ⟨Nat.le_of_ble_eq_true rfl, Nat.le_of_ble_eq_true rfl⟩) (bf_rdV hK hP [6] rfl (ci := 2) (q0 := 0) rfl rfl) rfl rfl hl.1 rfl (lv_room (Nat.le_of_ble_eq_true rfl)) dX2_encryptBlock_13 ⟨Nat.le_of_ble_eq_true rfl, Nat.le_of_ble_eq_true rfl⟩)) ?_
  refine lv_istore (lv' := [(6, .int (bf_wd B 4 4)), (5, .int (bf_wd B 0 4)), (0, .ref h0), (1, .ref bb), (2, .int 0), (3, .ref ob), (4, .int 0)]) hx hb dX2_encryptBlock_16 hl (by decide) rfl (fun ls hl => ?_)
  refine lv_iload hx hb dX2_encryptBlock_18 (lv_at hl 1 rfl) ?_
  refine lv_aload_n hx hb dX2_encryptBlock_20 rfl (lv_at hl 2 rfl) ?_
  refine va_get (D := (dC, dI)) (ci := 2) (v := .ref a4) (C := RX2) (T := TX2) (N := 7) hx hb hts in_X2 hown hK hP 0 rfl rfl 4 (by decide) (hts _ q78) (fun _ h9 => h9) rfl dX2_encryptBlock_21 ?_
  refine lv_iconst (v := 0) hx hb dX2_encryptBlock_24 (by decide) ?_
  refine bf_iald hx hb hK hP 5 1 rfl rfl dX2_encryptBlock_25 0 rfl (Nat.le_of_ble_eq_true rfl) (Nat.le_of_ble_eq_true rfl) ?_
  refine lv_ixor hx hb dX2_encryptBlock_26 ?_
  refine bf_topE (y := (bf_rn T T (bf_wd B 0 4) (bf_wd B 4 4) (2 * 0)).1 ^^^ T (2 * 0)) rfl ?_
  refine lv_istore (lv' := [(5, .int ((bf_rn T T (bf_wd B 0 4) (bf_wd B 4 4) (2 * 0)).1 ^^^ T (2 * 0))), (6, .int (bf_wd B 4 4)), (0, .ref h0), (1, .ref bb), (2, .int 0), (3, .ref ob), (4, .int 0)]) hx hb dX2_encryptBlock_27 hl (by decide) rfl (fun ls hl => ?_)
  refine lv_iconst (v := 1) hx hb dX2_encryptBlock_29 (by decide) ?_
  refine lv_istore (lv' := [(7, .int 1), (5, .int ((bf_rn T T (bf_wd B 0 4) (bf_wd B 4 4) (2 * 0)).1 ^^^ T (2 * 0))), (6, .int (bf_wd B 4 4)), (0, .ref h0), (1, .ref bb), (2, .int 0), (3, .ref ob), (4, .int 0)]) hx hb dX2_encryptBlock_30 hl (by decide) rfl (fun ls hl => ?_)
  have hl := lv_sub (l' := [(0, .ref h0), (1, .ref bb), (2, .int 0), (3, .ref ob), (4, .int 0), (5, .int ((bf_rn T T (bf_wd B 0 4) (bf_wd B 4 4) (2 * 0)).1 ^^^ T (2 * 0))), (6, .int (bf_wd B 4 4)), (7, .int 1)]) hl [3, 4, 5, 6, 7, 1, 2, 0] rfl
  refine bf_while 8 (fun j H locs ls => va_P (dC, dI) vwCl [(h0, .inr (2, [.ref a0, .ref a1, .ref a2, .ref a3, .ref a4, .int en, wk])), (a0, .inl (cI, 256, .inl (fun k => T (18 + k)))), (a1, .inl (cI, 256, .inl (fun k => T (274 + k)))), (a2, .inl (cI, 256, .inl (fun k => T (530 + k)))), (a3, .inl (cI, 256, .inl (fun k => T (786 + k)))), (a4, .inl (cI, 18, .inl T)), (bb, .inl (cB, 8, .inl B)), (ob, .inl (cB, 8, .inl O))] H ∧ va_D A [(h0, .inr (2, [.ref a0, .ref a1, .ref a2, .ref a3, .ref a4, .int en, wk])), (a0, .inl (cI, 256, .inl (fun k => T (18 + k)))), (a1, .inl (cI, 256, .inl (fun k => T (274 + k)))), (a2, .inl (cI, 256, .inl (fun k => T (530 + k)))), (a3, .inl (cI, 256, .inl (fun k => T (786 + k)))), (a4, .inl (cI, 18, .inl T)), (bb, .inl (cB, 8, .inl B)), (ob, .inl (cB, 8, .inl O))] ∧ va_S A s.heap H locs ∧ lv_has ls 8 [(0, .ref h0), (1, .ref bb), (2, .int 0), (3, .ref ob), (4, .int 0), (5, .int ((bf_rn T T (bf_wd B 0 4) (bf_wd B 4 4) (2 * j)).1 ^^^ T (2 * j))), (6, .int (bf_rn T T (bf_wd B 0 4) (bf_wd B 4 4) (2 * j)).2), (7, .int (nI (2 * j + 1)))]) (fun _ => 0) (fun _ => 0) 0 (Nat.zero_le _) ⟨hP, hD, hS, hl⟩ (fun H locs ls hI => ?_) (fun j hj jh H locs ls hI => ?_)
  · obtain ⟨hP, hD, hS, hl⟩ := hI
    refine lv_iload hx hb dX2_encryptBlock_32 (lv_at hl 7 rfl) ?_
    refine lv_bipush (v := 16) hx hb dX2_encryptBlock_34 (by decide) ?_
    refine lv_icmp_ge (tgt := 85) hx hb dX2_encryptBlock_36 (by decide) (fun _ => ?_) (fun h9 => absurd (nI_le (a := 16) (b := 2 * 8 + 1) (Nat.le_of_ble_eq_true rfl) (Nat.le_of_ble_eq_true rfl)) h9)
    refine lv_iload hx hb dX2_encryptBlock_85 (lv_at hl 6 rfl) ?_
    refine lv_aload_n hx hb dX2_encryptBlock_87 rfl (lv_at hl 0 rfl) ?_
    refine va_get (D := (dC, dI)) (ci := 2) (v := .ref a4) (C := RX2) (T := TX2) (N := 7) hx hb hts in_X2 hown hK hP 0 rfl rfl 4 (by decide) (hts _ q78) (fun _ h9 => h9) rfl dX2_encryptBlock_88 ?_
    refine lv_bipush (v := 17) hx hb dX2_encryptBlock_91 (by decide) ?_
    refine bf_iald hx hb hK hP 5 1 rfl rfl dX2_encryptBlock_93 17 rfl (Nat.le_of_ble_eq_true rfl) (Nat.le_of_ble_eq_true rfl) ?_
    refine lv_ixor hx hb dX2_encryptBlock_94 ?_
    refine bf_topE (y := (bf_cr T T (bf_wd B 0 4) (bf_wd B 4 4)).1) rfl ?_
    refine lv_istore (lv' := [(6, .int ((bf_cr T T (bf_wd B 0 4) (bf_wd B 4 4)).1)), (0, .ref h0), (1, .ref bb), (2, .int 0), (3, .ref ob), (4, .int 0), (5, .int ((bf_rn T T (bf_wd B 0 4) (bf_wd B 4 4) (2 * 8)).1 ^^^ T (2 * 8))), (7, .int (nI (2 * 8 + 1)))]) hx hb dX2_encryptBlock_95 hl (by decide) rfl (fun ls hl => ?_)
    have hl := lv_sub (l' := [(0, .ref h0), (1, .ref bb), (2, .int 0), (3, .ref ob), (4, .int 0), (5, .int (bf_cr T T (bf_wd B 0 4) (bf_wd B 4 4)).2), (6, .int (bf_cr T T (bf_wd B 0 4) (bf_wd B 4 4)).1)]) hl [1, 2, 3, 4, 5, 6, 0] rfl
    refine lv_aload_n hx hb dX2_encryptBlock_97 rfl (lv_at hl 0 rfl) ?_
    refine lv_iload hx hb dX2_encryptBlock_98 (lv_at hl 6 rfl) ?_
    refine lv_aload_n hx hb dX2_encryptBlock_100 rfl (lv_at hl 3 rfl) ?_
    refine lv_iload hx hb dX2_encryptBlock_101 (lv_at hl 4 rfl) ?_
    refine bf_topE (y := nI 0) rfl ?_
    refine bf_callv (wr := [(h0, .inr (2, [.ref a0, .ref a1, .ref a2, .ref a3, .ref a4, .int en, wk])), (a0, .inl (cI, 256, .inl (fun k => T (18 + k)))), (a1, .inl (cI, 256, .inl (fun k => T (274 + k)))), (a2, .inl (cI, 256, .inl (fun k => T (530 + k)))), (a3, .inl (cI, 256, .inl (fun k => T (786 + k)))), (a4, .inl (cI, 18, .inl T)), (bb, .inl (cB, 8, .inl B))]) (va_runV (As := [.int (bf_cr T T (bf_wd B 0 4) (bf_wd B 4 4)).1, .ref ob, .int (nI 0)]) (rest := []) ⟨hx, hb, hml, hown, hts⟩ (met_X2_Bits32ToBytes l dC dI cB cI H.size h0 ob 8 0 (bf_cr T T (bf_wd B 0 4) (bf_wd B 4 4)).1 O (Nat.le_of_ble_eq_true rfl) (Nat.le_of_ble_eq_true rfl)) (cwV 3 hts (lw_V q293 q295 qs7 q16 q296) rfl rfl rfl (by decide +kernel) ⟨Nat.le_of_ble_eq_true rfl, Nat.le_of_ble_eq_true rfl⟩) (bf_preV hK hP hD [7] (by decide) rfl (ci := 2) (q0 := 0) rfl rfl) rfl rfl hl.1 rfl (lv_room (Nat.le_of_ble_eq_true rfl)) dX2_encryptBlock_103 ⟨Nat.le_of_ble_eq_true rfl, Nat.le_of_ble_eq_true rfl⟩) hP hD hS hA [7] [0, 1, 2, 3, 4, 5, 6] rfl rfl (by decide) (by decide) (fun _ H locs hP hD hS => ?_)
    have hP : va_P (dC, dI) vwCl [(h0, .inr (2, [.ref a0, .ref a1, .ref a2, .ref a3, .ref a4, .int en, wk])), (a0, .inl (cI, 256, .inl (fun k => T (18 + k)))), (a1, .inl (cI, 256, .inl (fun k => T (274 + k)))), (a2, .inl (cI, 256, .inl (fun k => T (530 + k)))), (a3, .inl (cI, 256, .inl (fun k => T (786 + k)))), (a4, .inl (cI, 18, .inl T)), (bb, .inl (cB, 8, .inl B)), (ob, .inl (cB, 8, .inl (bf_put O 0 (bf_cr T T (bf_wd B 0 4) (bf_wd B 4 4)).1)))] H := hP
    have hD : va_D A [(h0, .inr (2, [.ref a0, .ref a1, .ref a2, .ref a3, .ref a4, .int en, wk])), (a0, .inl (cI, 256, .inl (fun k => T (18 + k)))), (a1, .inl (cI, 256, .inl (fun k => T (274 + k)))), (a2, .inl (cI, 256, .inl (fun k => T (530 + k)))), (a3, .inl (cI, 256, .inl (fun k => T (786 + k)))), (a4, .inl (cI, 18, .inl T)), (bb, .inl (cB, 8, .inl B)), (ob, .inl (cB, 8, .inl (bf_put O 0 (bf_cr T T (bf_wd B 0 4) (bf_wd B 4 4)).1)))] := hD
    refine lv_aload_n hx hb dX2_encryptBlock_106 rfl (lv_at hl 0 rfl) ?_
    refine lv_iload hx hb dX2_encryptBlock_107 (lv_at hl 5 rfl) ?_
    refine lv_aload_n hx hb dX2_encryptBlock_109 rfl (lv_at hl 3 rfl) ?_
    refine lv_iload hx hb dX2_encryptBlock_110 (lv_at hl 4 rfl) ?_
    refine lv_iconst (v := 4) hx hb dX2_encryptBlock_112 (by decide) ?_
    refine lv_iadd hx hb dX2_encryptBlock_113 ?_
    refine bf_topE (y := nI 4) (by decide) ?_
    refine bf_callv (wr := [(h0, .inr (2, [.ref a0, .ref a1, .ref a2, .ref a3, .ref a4, .int en, wk])), (a0, .inl (cI, 256, .inl (fun k => T (18 + k)))), (a1, .inl (cI, 256, .inl (fun k => T (274 + k)))), (a2, .inl (cI, 256, .inl (fun k => T (530 + k)))), (a3, .inl (cI, 256, .inl (fun k => T (786 + k)))), (a4, .inl (cI, 18, .inl T)), (bb, .inl (cB, 8, .inl B))]) (va_runV (As := [.int (bf_cr T T (bf_wd B 0 4) (bf_wd B 4 4)).2, .ref ob, .int (nI 4)]) (rest := []) ⟨hx, hb, hml, hown, hts⟩ (met_X2_Bits32ToBytes l dC dI cB cI H.size h0 ob 8 4 (bf_cr T T (bf_wd B 0 4) (bf_wd B 4 4)).2 (bf_put O 0 (bf_cr T T (bf_wd B 0 4) (bf_wd B 4 4)).1) (Nat.le_of_ble_eq_true rfl) (Nat.le_of_ble_eq_true rfl)) (cwV 3 hts (lw_V q293 q295 qs7 q16 q296) rfl rfl rfl (by decide +kernel) ⟨Nat.le_of_ble_eq_true rfl, Nat.le_of_ble_eq_true rfl⟩) (bf_preV hK hP hD [7] (by decide) rfl (ci := 2) (q0 := 0) rfl rfl) rfl rfl hl.1 rfl (lv_room (Nat.le_of_ble_eq_true rfl)) dX2_encryptBlock_114 ⟨Nat.le_of_ble_eq_true rfl, Nat.le_of_ble_eq_true rfl⟩) hP hD hS hA [7] [0, 1, 2, 3, 4, 5, 6] rfl rfl (by decide) (by decide) (fun _ H locs hP hD hS => ?_)
    have hP : va_P (dC, dI) vwCl [(h0, .inr (2, [.ref a0, .ref a1, .ref a2, .ref a3, .ref a4, .int en, wk])), (a0, .inl (cI, 256, .inl (fun k => T (18 + k)))), (a1, .inl (cI, 256, .inl (fun k => T (274 + k)))), (a2, .inl (cI, 256, .inl (fun k => T (530 + k)))), (a3, .inl (cI, 256, .inl (fun k => T (786 + k)))), (a4, .inl (cI, 18, .inl T)), (bb, .inl (cB, 8, .inl B)), (ob, .inl (cB, 8, .inl (bf_put (bf_put O 0 (bf_cr T T (bf_wd B 0 4) (bf_wd B 4 4)).1) 4 (bf_cr T T (bf_wd B 0 4) (bf_wd B 4 4)).2)))] H := hP
    have hD : va_D A [(h0, .inr (2, [.ref a0, .ref a1, .ref a2, .ref a3, .ref a4, .int en, wk])), (a0, .inl (cI, 256, .inl (fun k => T (18 + k)))), (a1, .inl (cI, 256, .inl (fun k => T (274 + k)))), (a2, .inl (cI, 256, .inl (fun k => T (530 + k)))), (a3, .inl (cI, 256, .inl (fun k => T (786 + k)))), (a4, .inl (cI, 18, .inl T)), (bb, .inl (cB, 8, .inl B)), (ob, .inl (cB, 8, .inl (bf_put (bf_put O 0 (bf_cr T T (bf_wd B 0 4) (bf_wd B 4 4)).1) 4 (bf_cr T T (bf_wd B 0 4) (bf_wd B 4 4)).2)))] := hD
    exact W.vret hx hb hr (fun t ht hW => ⟨⟨(), rfl, trivial, by rw [ht]; exact hP, hD⟩, hS.F ht⟩) hS.2.2 dX2_encryptBlock_117
  · obtain ⟨hP, hD, hS, hl⟩ := hI
    refine lv_iload hx hb dX2_encryptBlock_32 (lv_at hl 7 rfl) ?_
    refine lv_bipush (v := 16) hx hb dX2_encryptBlock_34 (by decide) ?_
    refine lv_icmp_ge (tgt := 85) hx hb dX2_encryptBlock_36 (by decide) (fun h9 => absurd h9 (nI_ge (a := 2 * j + 1) (b := 16) (by omega) (Nat.le_of_ble_eq_true rfl))) (fun _ => ?_)
    refine lv_iload hx hb dX2_encryptBlock_39 (lv_at hl 6 rfl) ?_
    refine lv_aload_n hx hb dX2_encryptBlock_41 rfl (lv_at hl 0 rfl) ?_
    refine lv_iload hx hb dX2_encryptBlock_42 (lv_at hl 5 rfl) ?_
    refine bf_calli (va_Run.run (va_runV (As := [.int ((bf_rn T T (bf_wd B 0 4) (bf_wd B 4 4) (2 * j)).1 ^^^ T (2 * j))]) (rest := [.int (bf_rn T T (bf_wd B 0 4) (bf_wd B 4 4) (2 * j)).2]) ⟨hx, hb, hml, hown, hts⟩ (met_X2_F l dC dI cB cI h0 a0 a1 a2 a3 a4 en wk T ((bf_rn T T (bf_wd B 0 4) (bf_wd B 4 4) (2 * j)).1 ^^^ T (2 * j))) (cwV 1 hts (lw_V q218 q220 qs4 q16 q221) rfl rfl rfl (by decide +kernel) ⟨Nat.le_of_ble_eq_true rfl, Nat.le_of_ble_eq_true rfl⟩) (bf_rdV hK hP [0, 1, 2, 3, 4] rfl (ci := 2) (q0 := 0) rfl rfl) rfl rfl hl.1 rfl (lv_room (Nat.le_of_ble_eq_true rfl)) dX2_encryptBlock_44 ⟨Nat.le_of_ble_eq_true rfl, Nat.le_of_ble_eq_true rfl⟩)) ?_
    refine lv_aload_n hx hb dX2_encryptBlock_47 rfl (lv_at hl 0 rfl) ?_
    refine va_get (D := (dC, dI)) (ci := 2) (v := .ref a4) (C := RX2) (T := TX2) (N := 7) hx hb hts in_X2 hown hK hP 0 rfl rfl 4 (by decide) (hts _ q78) (fun _ h9 => h9) rfl dX2_encryptBlock_48 ?_
    refine lv_iload hx hb dX2_encryptBlock_51 (lv_at hl 7 rfl) ?_
    refine bf_iald hx hb hK hP 5 1 rfl rfl dX2_encryptBlock_53 (2 * j + 1) rfl (by omega) (Nat.le_of_ble_eq_true rfl) ?_
    refine lv_ixor hx hb dX2_encryptBlock_54 ?_
    refine lv_ixor hx hb dX2_encryptBlock_55 ?_
    refine bf_topE (y := (bf_rn T T (bf_wd B 0 4) (bf_wd B 4 4) (2 * j + 2)).2) (bf_two1 _ _ _ _ _) ?_
    refine lv_istore (lv' := [(6, .int ((bf_rn T T (bf_wd B 0 4) (bf_wd B 4 4) (2 * j + 2)).2)), (0, .ref h0), (1, .ref bb), (2, .int 0), (3, .ref ob), (4, .int 0), (5, .int ((bf_rn T T (bf_wd B 0 4) (bf_wd B 4 4) (2 * j)).1 ^^^ T (2 * j))), (7, .int (nI (2 * j + 1)))]) hx hb dX2_encryptBlock_56 hl (by decide) rfl (fun ls hl => ?_)
    refine lv_iload hx hb dX2_encryptBlock_58 (lv_at hl 6 rfl) ?_
    refine lv_aload_n hx hb dX2_encryptBlock_60 rfl (lv_at hl 1 rfl) ?_
    refine lv_iload hx hb dX2_encryptBlock_61 (lv_at hl 0 rfl) ?_
    refine bf_calli (va_Run.run (va_runV (As := [.int ((bf_rn T T (bf_wd B 0 4) (bf_wd B 4 4) (2 * j + 2)).2)]) (rest := [.int ((bf_rn T T (bf_wd B 0 4) (bf_wd B 4 4) (2 * j)).1 ^^^ T (2 * j))]) ⟨hx, hb, hml, hown, hts⟩ (met_X2_F l dC dI cB cI h0 a0 a1 a2 a3 a4 en wk T ((bf_rn T T (bf_wd B 0 4) (bf_wd B 4 4) (2 * j + 2)).2)) (cwV 1 hts (lw_V q218 q220 qs4 q16 q221) rfl rfl rfl (by decide +kernel) ⟨Nat.le_of_ble_eq_true rfl, Nat.le_of_ble_eq_true rfl⟩) (bf_rdV hK hP [0, 1, 2, 3, 4] rfl (ci := 2) (q0 := 0) rfl rfl) rfl rfl hl.1 rfl (lv_room (Nat.le_of_ble_eq_true rfl)) dX2_encryptBlock_63 ⟨Nat.le_of_ble_eq_true rfl, Nat.le_of_ble_eq_true rfl⟩)) ?_
    refine lv_aload_n hx hb dX2_encryptBlock_66 rfl (lv_at hl 1 rfl) ?_
    refine va_get (D := (dC, dI)) (ci := 2) (v := .ref a4) (C := RX2) (T := TX2) (N := 7) hx hb hts in_X2 hown hK hP 0 rfl rfl 4 (by decide) (hts _ q78) (fun _ h9 => h9) rfl dX2_encryptBlock_67 ?_
    refine lv_iload hx hb dX2_encryptBlock_70 (lv_at hl 7 rfl) ?_
    refine lv_iconst (v := 1) hx hb dX2_encryptBlock_72 (by decide) ?_
    refine lv_iadd hx hb dX2_encryptBlock_73 ?_
    refine bf_iald hx hb hK hP 5 1 rfl rfl dX2_encryptBlock_74 (2 * j + 2) (nI_add (2 * j + 1) 1) (by omega) (Nat.le_of_ble_eq_true rfl) ?_
    refine lv_ixor hx hb dX2_encryptBlock_75 ?_
    refine lv_ixor hx hb dX2_encryptBlock_76 ?_
    refine bf_topE (y := (bf_rn T T (bf_wd B 0 4) (bf_wd B 4 4) (2 * j + 2)).1 ^^^ T (2 * j + 2)) (bf_two2 _ _ _ _ _) ?_
    refine lv_istore (lv' := [(5, .int ((bf_rn T T (bf_wd B 0 4) (bf_wd B 4 4) (2 * j + 2)).1 ^^^ T (2 * j + 2))), (6, .int ((bf_rn T T (bf_wd B 0 4) (bf_wd B 4 4) (2 * j + 2)).2)), (0, .ref h0), (1, .ref bb), (2, .int 0), (3, .ref ob), (4, .int 0), (7, .int (nI (2 * j + 1)))]) hx hb dX2_encryptBlock_77 hl (by decide) rfl (fun ls hl => ?_)
    refine lv_iinc (v := nI (2 * (j + 1) + 1)) (lv' := [(7, .int (nI (2 * (j + 1) + 1))), (5, .int ((bf_rn T T (bf_wd B 0 4) (bf_wd B 4 4) (2 * j + 2)).1 ^^^ T (2 * j + 2))), (6, .int ((bf_rn T T (bf_wd B 0 4) (bf_wd B 4 4) (2 * j + 2)).2)), (0, .ref h0), (1, .ref bb), (2, .int 0), (3, .ref ob), (4, .int 0)]) hx hb dX2_encryptBlock_79 hl (k := 7) rfl (by rw [show 2 * (j + 1) + 1 = 2 * j + 1 + 2 by omega]; exact nI_add (2 * j + 1) 2) (by decide) rfl (fun ls hl => ?_)
    refine lv_goto (tgt := 32) hx hb dX2_encryptBlock_82 (by decide) ?_
    exact jh H locs ls ⟨hP, hD, hS, lv_sub hl [3, 4, 5, 6, 7, 1, 2, 0] rfl⟩
set_option maxHeartbeats 4000000 in
set_option maxRecDepth 100000 in
/-- decryptBlock(block, 0, out, 0) -/
theorem met_X2_decryptBlock (l : Launch) (dC : Nat → ClassId) (dI : Nat → Nat → Nat) (cB cI : ClassId) (sz : Nat) (h0 a0 a1 a2 a3 a4 bb ob : Nat) (en : Int32) (wk : Value) (T B O : Nat → Int32) : Met l yX2_decryptBlock (ws_ yX2_decryptBlock cX2_decryptBlock 8 none) ({ frames := 1, cells := 0, slots := 0, locals := 23 }) (va_Pc [.ref h0, .ref bb, .int 0, .ref ob, .int 0] (bfPre (dC, dI) cB cI [(h0, .inr (2, [.ref a0, .ref a1, .ref a2, .ref a3, .ref a4, .int en, wk])), (a0, .inl (cI, 256, .inl (fun k => T (18 + k)))), (a1, .inl (cI, 256, .inl (fun k => T (274 + k)))), (a2, .inl (cI, 256, .inl (fun k => T (530 + k)))), (a3, .inl (cI, 256, .inl (fun k => T (786 + k)))), (a4, .inl (cI, 18, .inl T)), (bb, .inl (cB, 8, .inl B)), (ob, .inl (cB, 8, .inl O))] sz)) (va_Qv (fun _ : Unit => True) (fun _ t => bfPost (dC, dI) [(h0, .inr (2, [.ref a0, .ref a1, .ref a2, .ref a3, .ref a4, .int en, wk])), (a0, .inl (cI, 256, .inl (fun k => T (18 + k)))), (a1, .inl (cI, 256, .inl (fun k => T (274 + k)))), (a2, .inl (cI, 256, .inl (fun k => T (530 + k)))), (a3, .inl (cI, 256, .inl (fun k => T (786 + k)))), (a4, .inl (cI, 18, .inl T)), (bb, .inl (cB, 8, .inl B)), (ob, .inl (cB, 8, .inl (bf_put (bf_put O 0 (bf_cr T (fun i => T (17 - i)) (bf_wd B 0 4) (bf_wd B 4 4)).1) 4 (bf_cr T (fun i => T (17 - i)) (bf_wd B 0 4) (bf_wd B 4 4)).2)))] (va_A [(h0, .inr (2, [.ref a0, .ref a1, .ref a2, .ref a3, .ref a4, .int en, wk])), (a0, .inl (cI, 256, .inl (fun k => T (18 + k)))), (a1, .inl (cI, 256, .inl (fun k => T (274 + k)))), (a2, .inl (cI, 256, .inl (fun k => T (530 + k)))), (a3, .inl (cI, 256, .inl (fun k => T (786 + k)))), (a4, .inl (cI, 18, .inl T)), (bb, .inl (cB, 8, .inl B)), (ob, .inl (cB, 8, .inl O))] sz) t) (va_A [(h0, .inr (2, [.ref a0, .ref a1, .ref a2, .ref a3, .ref a4, .int en, wk])), (a0, .inl (cI, 256, .inl (fun k => T (18 + k)))), (a1, .inl (cI, 256, .inl (fun k => T (274 + k)))), (a2, .inl (cI, 256, .inl (fun k => T (530 + k)))), (a3, .inl (cI, 256, .inl (fun k => T (786 + k)))), (a4, .inl (cI, 18, .inl T)), (bb, .inl (cB, 8, .inl B)), (ob, .inl (cB, 8, .inl O))] sz)) 0 0 (va_A [(h0, .inr (2, [.ref a0, .ref a1, .ref a2, .ref a3, .ref a4, .int en, wk])), (a0, .inl (cI, 256, .inl (fun k => T (18 + k)))), (a1, .inl (cI, 256, .inl (fun k => T (274 + k)))), (a2, .inl (cI, 256, .inl (fun k => T (530 + k)))), (a3, .inl (cI, 256, .inl (fun k => T (786 + k)))), (a4, .inl (cI, 18, .inl T)), (bb, .inl (cB, 8, .inl B)), (ob, .inl (cB, 8, .inl O))] sz) := by
  refine Met.ofW (cc := cX2_decryptBlock) (maxL := 8) (ret := none) (by decide) rfl ?_
  intro p e s m args below meth c s₁ hBo hml hv
  obtain ⟨rfl, hsz, hP, hK, hD0⟩ := hv
  have hx := hBo.exec
  have hb := hBo.bytes
  have hr := hBo.returns
  have hts := atoms_spec (ws := (ws_ yX2_decryptBlock cX2_decryptBlock 8 none)) hBo.pre
  have hts : ∀ w ∈ lw_all, w.before _ s = true := fun w h => hts w (List.mem_cons_of_mem _ h)
  have hown : s.vm.findClass RX2 = some m.cls := findClass_of_methodNamed hBo.named
  have hlocks := hBo.notSynchronized
  subst hsz
  have hD := hD0.self (sz := s.heap.size)
  generalize hAe : va_A [(h0, .inr (2, [.ref a0, .ref a1, .ref a2, .ref a3, .ref a4, .int en, wk])), (a0, .inl (cI, 256, .inl (fun k => T (18 + k)))), (a1, .inl (cI, 256, .inl (fun k => T (274 + k)))), (a2, .inl (cI, 256, .inl (fun k => T (530 + k)))), (a3, .inl (cI, 256, .inl (fun k => T (786 + k)))), (a4, .inl (cI, 18, .inl T)), (bb, .inl (cB, 8, .inl B)), (ob, .inl (cB, 8, .inl O))] s.heap.size = A at hD ⊢
  have hA : ∀ q : Nat, s.heap.size ≤ q → A q := fun q h => by rw [← hAe]; exact Or.inr h
  have hS : va_S A s.heap s.heap [] := va_S.rf
  have hl := lv_entry ([.ref h0, .ref bb, .int 0, .ref ob, .int 0]) (n := 8) (Nat.le_of_ble_eq_true rfl)
  rw [lg_entry_eq]
  generalize (lg_sl ([.ref h0, .ref bb, .int 0, .ref ob, .int 0]) ++ List.replicate (8 - (lg_sl ([.ref h0, .ref bb, .int 0, .ref ob, .int 0])).length) Slot.unset).toArray = ls at hl ⊢
  have hl : lv_has ls 8 [(0, .ref h0), (1, .ref bb), (2, .int 0), (3, .ref ob), (4, .int 0)] := hl
  refine lv_aload_n hx hb dX2_decryptBlock_0 rfl (lv_at hl 0 rfl) ?_
  refine lv_aload_n hx hb dX2_decryptBlock_1 rfl (lv_at hl 1 rfl) ?_
  refine lv_iload_n hx hb dX2_decryptBlock_2 rfl (lv_at hl 2 rfl) ?_
  refine bf_topE (y := nI 0) rfl ?_
  refine bf_calli (va_Run.run (va_runV (As := [.ref bb, .int (nI 0)]) (rest := []) ⟨hx, hb, hml, hown, hts⟩ (met_X2_BytesTo32bits l dC dI cB cI h0 bb 8 0 B (Nat.le_of_ble_eq_true rfl) (Nat.le_of_ble_eq_true rfl)) (cwV 2 hts (lw_V q289 q291 qs6 q16 q292) rfl rfl rfl (by decide +kernel) ⟨Nat.le_of_ble_eq_true rfl, Nat.le_of_ble_eq_true rfl⟩) (bf_rdV hK hP [6] rfl (ci := 2) (q0 := 0) rfl rfl) rfl rfl hl.1 rfl (lv_room (Nat.le_of_ble_eq_true rfl)) dX2_decryptBlock_3 ⟨Nat.le_of_ble_eq_true rfl, Nat.le_of_ble_eq_true rfl⟩)) ?_
  refine lv_istore (lv' := [(5, .int (bf_wd B 0 4)), (0, .ref h0), (1, .ref bb), (2, .int 0), (3, .ref ob), (4, .int 0)]) hx hb dX2_decryptBlock_6 hl (by decide) rfl (fun ls hl => ?_)
  refine lv_aload_n hx hb dX2_decryptBlock_8 rfl (lv_at hl 1 rfl) ?_
  refine lv_aload_n hx hb dX2_decryptBlock_9 rfl (lv_at hl 2 rfl) ?_
  refine lv_iload_n hx hb dX2_decryptBlock_10 rfl (lv_at hl 3 rfl) ?_
  refine lv_iconst (v := 4) hx hb dX2_decryptBlock_11 (by decide) ?_
  refine lv_iadd hx hb dX2_decryptBlock_12 ?_
  refine bf_topE (y := nI 4) (by decide) ?_
  refine bf_calli (va_Run.run (va_runV (As := [.ref bb, .int (nI 4)]) (rest := []) ⟨hx, hb, hml, hown, hts⟩ (met_X2_BytesTo32bits l dC dI cB cI h0 bb 8 4 B (Nat.le_of_ble_eq_true rfl) (Nat.le_of_ble_eq_true rfl)) (cwV 2 hts (lw_V q289 q291 qs6 q16 q292) rfl rfl rfl (by decide +kernel) ⟨Nat.le_of_ble_eq_true rfl, Nat.le_of_ble_eq_true rfl⟩) (bf_rdV hK hP [6] rfl (ci := 2) (q0 := 0) rfl rfl) rfl rfl hl.1 rfl (lv_room (Nat.le_of_ble_eq_true rfl)) dX2_decryptBlock_13 ⟨Nat.le_of_ble_eq_true rfl, Nat.le_of_ble_eq_true rfl⟩)) ?_
  refine lv_istore (lv' := [(6, .int (bf_wd B 4 4)), (5, .int (bf_wd B 0 4)), (0, .ref h0), (1, .ref bb), (2, .int 0), (3, .ref ob), (4, .int 0)]) hx hb dX2_decryptBlock_16 hl (by decide) rfl (fun ls hl => ?_)
  refine lv_iload hx hb dX2_decryptBlock_18 (lv_at hl 1 rfl) ?_
  refine lv_aload_n hx hb dX2_decryptBlock_20 rfl (lv_at hl 2 rfl) ?_
  refine va_get (D := (dC, dI)) (ci := 2) (v := .ref a4) (C := RX2) (T := TX2) (N := 7) hx hb hts in_X2 hown hK hP 0 rfl rfl 4 (by decide) (hts _ q78) (fun _ h9 => h9) rfl dX2_decryptBlock_21 ?_
  refine lv_bipush (v := 17) hx hb dX2_decryptBlock_24 (by decide) ?_
  refine bf_iald hx hb hK hP 5 1 rfl rfl dX2_decryptBlock_26 17 rfl (Nat.le_of_ble_eq_true rfl) (Nat.le_of_ble_eq_true rfl) ?_
  refine lv_ixor hx hb dX2_decryptBlock_27 ?_
  refine bf_topE (y := (bf_rn T (fun i => T (17 - i)) (bf_wd B 0 4) (bf_wd B 4 4) (2 * 0)).1 ^^^ T (17 - 2 * 0)) rfl ?_
  refine lv_istore (lv' := [(5, .int ((bf_rn T (fun i => T (17 - i)) (bf_wd B 0 4) (bf_wd B 4 4) (2 * 0)).1 ^^^ T (17 - 2 * 0))), (6, .int (bf_wd B 4 4)), (0, .ref h0), (1, .ref bb), (2, .int 0), (3, .ref ob), (4, .int 0)]) hx hb dX2_decryptBlock_28 hl (by decide) rfl (fun ls hl => ?_)
  refine lv_bipush (v := 16) hx hb dX2_decryptBlock_30 (by decide) ?_
  refine lv_istore (lv' := [(7, .int 16), (5, .int ((bf_rn T (fun i => T (17 - i)) (bf_wd B 0 4) (bf_wd B 4 4) (2 * 0)).1 ^^^ T (17 - 2 * 0))), (6, .int (bf_wd B 4 4)), (0, .ref h0), (1, .ref bb), (2, .int 0), (3, .ref ob), (4, .int 0)]) hx hb dX2_decryptBlock_32 hl (by decide) rfl (fun ls hl => ?_)
  have hl := lv_sub (l' := [(0, .ref h0), (1, .ref bb), (2, .int 0), (3, .ref ob), (4, .int 0), (5, .int ((bf_rn T (fun i => T (17 - i)) (bf_wd B 0 4) (bf_wd B 4 4) (2 * 0)).1 ^^^ T (17 - 2 * 0))), (6, .int (bf_wd B 4 4)), (7, .int 16)]) hl [3, 4, 5, 6, 7, 1, 2, 0] rfl
  refine bf_while 8 (fun j H locs ls => va_P (dC, dI) vwCl [(h0, .inr (2, [.ref a0, .ref a1, .ref a2, .ref a3, .ref a4, .int en, wk])), (a0, .inl (cI, 256, .inl (fun k => T (18 + k)))), (a1, .inl (cI, 256, .inl (fun k => T (274 + k)))), (a2, .inl (cI, 256, .inl (fun k => T (530 + k)))), (a3, .inl (cI, 256, .inl (fun k => T (786 + k)))), (a4, .inl (cI, 18, .inl T)), (bb, .inl (cB, 8, .inl B)), (ob, .inl (cB, 8, .inl O))] H ∧ va_D A [(h0, .inr (2, [.ref a0, .ref a1, .ref a2, .ref a3, .ref a4, .int en, wk])), (a0, .inl (cI, 256, .inl (fun k => T (18 + k)))), (a1, .inl (cI, 256, .inl (fun k => T (274 + k)))), (a2, .inl (cI, 256, .inl (fun k => T (530 + k)))), (a3, .inl (cI, 256, .inl (fun k => T (786 + k)))), (a4, .inl (cI, 18, .inl T)), (bb, .inl (cB, 8, .inl B)), (ob, .inl (cB, 8, .inl O))] ∧ va_S A s.heap H locs ∧ lv_has ls 8 [(0, .ref h0), (1, .ref bb), (2, .int 0), (3, .ref ob), (4, .int 0), (5, .int ((bf_rn T (fun i => T (17 - i)) (bf_wd B 0 4) (bf_wd B 4 4) (2 * j)).1 ^^^ T (17 - (2 * j)))), (6, .int (bf_rn T (fun i => T (17 - i)) (bf_wd B 0 4) (bf_wd B 4 4) (2 * j)).2), (7, .int (nI (16 - 2 * j)))]) (fun _ => 0) (fun _ => 0) 0 (Nat.zero_le _) ⟨hP, hD, hS, hl⟩ (fun H locs ls hI => ?_) (fun j hj jh H locs ls hI => ?_)
  · obtain ⟨hP, hD, hS, hl⟩ := hI
    refine lv_iload hx hb dX2_decryptBlock_34 (lv_at hl 7 rfl) ?_
    refine lv_if_le (tgt := 85) hx hb dX2_decryptBlock_36 (by decide) (fun _ => ?_) (fun h9 => absurd (by decide) h9)
    refine lv_iload hx hb dX2_decryptBlock_85 (lv_at hl 6 rfl) ?_
    refine lv_aload_n hx hb dX2_decryptBlock_87 rfl (lv_at hl 0 rfl) ?_
    refine va_get (D := (dC, dI)) (ci := 2) (v := .ref a4) (C := RX2) (T := TX2) (N := 7) hx hb hts in_X2 hown hK hP 0 rfl rfl 4 (by decide) (hts _ q78) (fun _ h9 => h9) rfl dX2_decryptBlock_88 ?_
    refine lv_iconst (v := 0) hx hb dX2_decryptBlock_91 (by decide) ?_
    refine bf_iald hx hb hK hP 5 1 rfl rfl dX2_decryptBlock_92 0 rfl (Nat.le_of_ble_eq_true rfl) (Nat.le_of_ble_eq_true rfl) ?_
    refine lv_ixor hx hb dX2_decryptBlock_93 ?_
    refine bf_topE (y := (bf_cr T (fun i => T (17 - i)) (bf_wd B 0 4) (bf_wd B 4 4)).1) rfl ?_
    refine lv_istore (lv' := [(6, .int ((bf_cr T (fun i => T (17 - i)) (bf_wd B 0 4) (bf_wd B 4 4)).1)), (0, .ref h0), (1, .ref bb), (2, .int 0), (3, .ref ob), (4, .int 0), (5, .int ((bf_rn T (fun i => T (17 - i)) (bf_wd B 0 4) (bf_wd B 4 4) (2 * 8)).1 ^^^ T (17 - (2 * 8)))), (7, .int (nI (16 - 2 * 8)))]) hx hb dX2_decryptBlock_94 hl (by decide) rfl (fun ls hl => ?_)
    have hl := lv_sub (l' := [(0, .ref h0), (1, .ref bb), (2, .int 0), (3, .ref ob), (4, .int 0), (5, .int (bf_cr T (fun i => T (17 - i)) (bf_wd B 0 4) (bf_wd B 4 4)).2), (6, .int (bf_cr T (fun i => T (17 - i)) (bf_wd B 0 4) (bf_wd B 4 4)).1)]) hl [1, 2, 3, 4, 5, 6, 0] rfl
    refine lv_aload_n hx hb dX2_decryptBlock_96 rfl (lv_at hl 0 rfl) ?_
    refine lv_iload hx hb dX2_decryptBlock_97 (lv_at hl 6 rfl) ?_
    refine lv_aload_n hx hb dX2_decryptBlock_99 rfl (lv_at hl 3 rfl) ?_
    refine lv_iload hx hb dX2_decryptBlock_100 (lv_at hl 4 rfl) ?_
    refine bf_topE (y := nI 0) rfl ?_
    refine bf_callv (wr := [(h0, .inr (2, [.ref a0, .ref a1, .ref a2, .ref a3, .ref a4, .int en, wk])), (a0, .inl (cI, 256, .inl (fun k => T (18 + k)))), (a1, .inl (cI, 256, .inl (fun k => T (274 + k)))), (a2, .inl (cI, 256, .inl (fun k => T (530 + k)))), (a3, .inl (cI, 256, .inl (fun k => T (786 + k)))), (a4, .inl (cI, 18, .inl T)), (bb, .inl (cB, 8, .inl B))]) (va_runV (As := [.int (bf_cr T (fun i => T (17 - i)) (bf_wd B 0 4) (bf_wd B 4 4)).1, .ref ob, .int (nI 0)]) (rest := []) ⟨hx, hb, hml, hown, hts⟩ (met_X2_Bits32ToBytes l dC dI cB cI H.size h0 ob 8 0 (bf_cr T (fun i => T (17 - i)) (bf_wd B 0 4) (bf_wd B 4 4)).1 O (Nat.le_of_ble_eq_true rfl) (Nat.le_of_ble_eq_true rfl)) (cwV 3 hts (lw_V q293 q295 qs7 q16 q296) rfl rfl rfl (by decide +kernel) ⟨Nat.le_of_ble_eq_true rfl, Nat.le_of_ble_eq_true rfl⟩) (bf_preV hK hP hD [7] (by decide) rfl (ci := 2) (q0 := 0) rfl rfl) rfl rfl hl.1 rfl (lv_room (Nat.le_of_ble_eq_true rfl)) dX2_decryptBlock_102 ⟨Nat.le_of_ble_eq_true rfl, Nat.le_of_ble_eq_true rfl⟩) hP hD hS hA [7] [0, 1, 2, 3, 4, 5, 6] rfl rfl (by decide) (by decide) (fun _ H locs hP hD hS => ?_)
    have hP : va_P (dC, dI) vwCl [(h0, .inr (2, [.ref a0, .ref a1, .ref a2, .ref a3, .ref a4, .int en, wk])), (a0, .inl (cI, 256, .inl (fun k => T (18 + k)))), (a1, .inl (cI, 256, .inl (fun k => T (274 + k)))), (a2, .inl (cI, 256, .inl (fun k => T (530 + k)))), (a3, .inl (cI, 256, .inl (fun k => T (786 + k)))), (a4, .inl (cI, 18, .inl T)), (bb, .inl (cB, 8, .inl B)), (ob, .inl (cB, 8, .inl (bf_put O 0 (bf_cr T (fun i => T (17 - i)) (bf_wd B 0 4) (bf_wd B 4 4)).1)))] H := hP
    have hD : va_D A [(h0, .inr (2, [.ref a0, .ref a1, .ref a2, .ref a3, .ref a4, .int en, wk])), (a0, .inl (cI, 256, .inl (fun k => T (18 + k)))), (a1, .inl (cI, 256, .inl (fun k => T (274 + k)))), (a2, .inl (cI, 256, .inl (fun k => T (530 + k)))), (a3, .inl (cI, 256, .inl (fun k => T (786 + k)))), (a4, .inl (cI, 18, .inl T)), (bb, .inl (cB, 8, .inl B)), (ob, .inl (cB, 8, .inl (bf_put O 0 (bf_cr T (fun i => T (17 - i)) (bf_wd B 0 4) (bf_wd B 4 4)).1)))] := hD
    refine lv_aload_n hx hb dX2_decryptBlock_105 rfl (lv_at hl 0 rfl) ?_
    refine lv_iload hx hb dX2_decryptBlock_106 (lv_at hl 5 rfl) ?_
    refine lv_aload_n hx hb dX2_decryptBlock_108 rfl (lv_at hl 3 rfl) ?_
    refine lv_iload hx hb dX2_decryptBlock_109 (lv_at hl 4 rfl) ?_
    refine lv_iconst (v := 4) hx hb dX2_decryptBlock_111 (by decide) ?_
    refine lv_iadd hx hb dX2_decryptBlock_112 ?_
    refine bf_topE (y := nI 4) (by decide) ?_
    refine bf_callv (wr := [(h0, .inr (2, [.ref a0, .ref a1, .ref a2, .ref a3, .ref a4, .int en, wk])), (a0, .inl (cI, 256, .inl (fun k => T (18 + k)))), (a1, .inl (cI, 256, .inl (fun k => T (274 + k)))), (a2, .inl (cI, 256, .inl (fun k => T (530 + k)))), (a3, .inl (cI, 256, .inl (fun k => T (786 + k)))), (a4, .inl (cI, 18, .inl T)), (bb, .inl (cB, 8, .inl B))]) (va_runV (As := [.int (bf_cr T (fun i => T (17 - i)) (bf_wd B 0 4) (bf_wd B 4 4)).2, .ref ob, .int (nI 4)]) (rest := []) ⟨hx, hb, hml, hown, hts⟩ (met_X2_Bits32ToBytes l dC dI cB cI H.size h0 ob 8 4 (bf_cr T (fun i => T (17 - i)) (bf_wd B 0 4) (bf_wd B 4 4)).2 (bf_put O 0 (bf_cr T (fun i => T (17 - i)) (bf_wd B 0 4) (bf_wd B 4 4)).1) (Nat.le_of_ble_eq_true rfl) (Nat.le_of_ble_eq_true rfl)) (cwV 3 hts (lw_V q293 q295 qs7 q16 q296) rfl rfl rfl (by decide +kernel) ⟨Nat.le_of_ble_eq_true rfl, Nat.le_of_ble_eq_true rfl⟩) (bf_preV hK hP hD [7] (by decide) rfl (ci := 2) (q0 := 0) rfl rfl) rfl rfl hl.1 rfl (lv_room (Nat.le_of_ble_eq_true rfl)) dX2_decryptBlock_113 ⟨Nat.le_of_ble_eq_true rfl, Nat.le_of_ble_eq_true rfl⟩) hP hD hS hA [7] [0, 1, 2, 3, 4, 5, 6] rfl rfl (by decide) (by decide) (fun _ H locs hP hD hS => ?_)
    have hP : va_P (dC, dI) vwCl [(h0, .inr (2, [.ref a0, .ref a1, .ref a2, .ref a3, .ref a4, .int en, wk])), (a0, .inl (cI, 256, .inl (fun k => T (18 + k)))), (a1, .inl (cI, 256, .inl (fun k => T (274 + k)))), (a2, .inl (cI, 256, .inl (fun k => T (530 + k)))), (a3, .inl (cI, 256, .inl (fun k => T (786 + k)))), (a4, .inl (cI, 18, .inl T)), (bb, .inl (cB, 8, .inl B)), (ob, .inl (cB, 8, .inl (bf_put (bf_put O 0 (bf_cr T (fun i => T (17 - i)) (bf_wd B 0 4) (bf_wd B 4 4)).1) 4 (bf_cr T (fun i => T (17 - i)) (bf_wd B 0 4) (bf_wd B 4 4)).2)))] H := hP
    have hD : va_D A [(h0, .inr (2, [.ref a0, .ref a1, .ref a2, .ref a3, .ref a4, .int en, wk])), (a0, .inl (cI, 256, .inl (fun k => T (18 + k)))), (a1, .inl (cI, 256, .inl (fun k => T (274 + k)))), (a2, .inl (cI, 256, .inl (fun k => T (530 + k)))), (a3, .inl (cI, 256, .inl (fun k => T (786 + k)))), (a4, .inl (cI, 18, .inl T)), (bb, .inl (cB, 8, .inl B)), (ob, .inl (cB, 8, .inl (bf_put (bf_put O 0 (bf_cr T (fun i => T (17 - i)) (bf_wd B 0 4) (bf_wd B 4 4)).1) 4 (bf_cr T (fun i => T (17 - i)) (bf_wd B 0 4) (bf_wd B 4 4)).2)))] := hD
    exact W.vret hx hb hr (fun t ht hW => ⟨⟨(), rfl, trivial, by rw [ht]; exact hP, hD⟩, hS.F ht⟩) hS.2.2 dX2_decryptBlock_116
  · obtain ⟨hP, hD, hS, hl⟩ := hI
    refine lv_iload hx hb dX2_decryptBlock_34 (lv_at hl 7 rfl) ?_
    refine lv_if_le (tgt := 85) hx hb dX2_decryptBlock_36 (by decide) (fun h9 => absurd h9 (nI_nle (by omega) (by omega))) (fun _ => ?_)
    refine lv_iload hx hb dX2_decryptBlock_39 (lv_at hl 6 rfl) ?_
    refine lv_aload_n hx hb dX2_decryptBlock_41 rfl (lv_at hl 0 rfl) ?_
    refine lv_iload hx hb dX2_decryptBlock_42 (lv_at hl 5 rfl) ?_
    refine bf_calli (va_Run.run (va_runV (As := [.int ((bf_rn T (fun i => T (17 - i)) (bf_wd B 0 4) (bf_wd B 4 4) (2 * j)).1 ^^^ T (17 - (2 * j)))]) (rest := [.int (bf_rn T (fun i => T (17 - i)) (bf_wd B 0 4) (bf_wd B 4 4) (2 * j)).2]) ⟨hx, hb, hml, hown, hts⟩ (met_X2_F l dC dI cB cI h0 a0 a1 a2 a3 a4 en wk T ((bf_rn T (fun i => T (17 - i)) (bf_wd B 0 4) (bf_wd B 4 4) (2 * j)).1 ^^^ T (17 - (2 * j)))) (cwV 1 hts (lw_V q218 q220 qs4 q16 q221) rfl rfl rfl (by decide +kernel) ⟨Nat.le_of_ble_eq_true rfl, Nat.le_of_ble_eq_true rfl⟩) (bf_rdV hK hP [0, 1, 2, 3, 4] rfl (ci := 2) (q0 := 0) rfl rfl) rfl rfl hl.1 rfl (lv_room (Nat.le_of_ble_eq_true rfl)) dX2_decryptBlock_44 ⟨Nat.le_of_ble_eq_true rfl, Nat.le_of_ble_eq_true rfl⟩)) ?_
    refine lv_aload_n hx hb dX2_decryptBlock_47 rfl (lv_at hl 0 rfl) ?_
    refine va_get (D := (dC, dI)) (ci := 2) (v := .ref a4) (C := RX2) (T := TX2) (N := 7) hx hb hts in_X2 hown hK hP 0 rfl rfl 4 (by decide) (hts _ q78) (fun _ h9 => h9) rfl dX2_decryptBlock_48 ?_
    refine lv_iload hx hb dX2_decryptBlock_51 (lv_at hl 7 rfl) ?_
    refine bf_iald hx hb hK hP 5 1 rfl rfl dX2_decryptBlock_53 (16 - 2 * j) rfl (by omega) (Nat.le_of_ble_eq_true rfl) ?_
    refine lv_ixor hx hb dX2_decryptBlock_54 ?_
    refine lv_ixor hx hb dX2_decryptBlock_55 ?_
    refine bf_topE (y := (bf_rn T (fun i => T (17 - i)) (bf_wd B 0 4) (bf_wd B 4 4) (2 * j + 2)).2) (by rw [show 16 - 2 * j = 17 - (2 * j + 1) by omega]; exact bf_two1 T (fun i => T (17 - i)) _ _ _) ?_
    refine lv_istore (lv' := [(6, .int ((bf_rn T (fun i => T (17 - i)) (bf_wd B 0 4) (bf_wd B 4 4) (2 * j + 2)).2)), (0, .ref h0), (1, .ref bb), (2, .int 0), (3, .ref ob), (4, .int 0), (5, .int ((bf_rn T (fun i => T (17 - i)) (bf_wd B 0 4) (bf_wd B 4 4) (2 * j)).1 ^^^ T (17 - (2 * j)))), (7, .int (nI (16 - 2 * j)))]) hx hb dX2_decryptBlock_56 hl (by decide) rfl (fun ls hl => ?_)
    refine lv_iload hx hb dX2_decryptBlock_58 (lv_at hl 6 rfl) ?_
    refine lv_aload_n hx hb dX2_decryptBlock_60 rfl (lv_at hl 1 rfl) ?_
    refine lv_iload hx hb dX2_decryptBlock_61 (lv_at hl 0 rfl) ?_
    refine bf_calli (va_Run.run (va_runV (As := [.int ((bf_rn T (fun i => T (17 - i)) (bf_wd B 0 4) (bf_wd B 4 4) (2 * j + 2)).2)]) (rest := [.int ((bf_rn T (fun i => T (17 - i)) (bf_wd B 0 4) (bf_wd B 4 4) (2 * j)).1 ^^^ T (17 - (2 * j)))]) ⟨hx, hb, hml, hown, hts⟩ (met_X2_F l dC dI cB cI h0 a0 a1 a2 a3 a4 en wk T ((bf_rn T (fun i => T (17 - i)) (bf_wd B 0 4) (bf_wd B 4 4) (2 * j + 2)).2)) (cwV 1 hts (lw_V q218 q220 qs4 q16 q221) rfl rfl rfl (by decide +kernel) ⟨Nat.le_of_ble_eq_true rfl, Nat.le_of_ble_eq_true rfl⟩) (bf_rdV hK hP [0, 1, 2, 3, 4] rfl (ci := 2) (q0 := 0) rfl rfl) rfl rfl hl.1 rfl (lv_room (Nat.le_of_ble_eq_true rfl)) dX2_decryptBlock_63 ⟨Nat.le_of_ble_eq_true rfl, Nat.le_of_ble_eq_true rfl⟩)) ?_
    refine lv_aload_n hx hb dX2_decryptBlock_66 rfl (lv_at hl 1 rfl) ?_
    refine va_get (D := (dC, dI)) (ci := 2) (v := .ref a4) (C := RX2) (T := TX2) (N := 7) hx hb hts in_X2 hown hK hP 0 rfl rfl 4 (by decide) (hts _ q78) (fun _ h9 => h9) rfl dX2_decryptBlock_67 ?_
    refine lv_iload hx hb dX2_decryptBlock_70 (lv_at hl 7 rfl) ?_
    refine lv_iconst (v := 1) hx hb dX2_decryptBlock_72 (by decide) ?_
    refine lv_isub hx hb dX2_decryptBlock_73 ?_
    refine bf_iald hx hb hK hP 5 1 rfl rfl dX2_decryptBlock_74 (16 - 2 * j - 1) (pk_sub (b := 1) (by omega)) (by omega) (Nat.le_of_ble_eq_true rfl) ?_
    refine lv_ixor hx hb dX2_decryptBlock_75 ?_
    refine lv_ixor hx hb dX2_decryptBlock_76 ?_
    refine bf_topE (y := (bf_rn T (fun i => T (17 - i)) (bf_wd B 0 4) (bf_wd B 4 4) (2 * j + 2)).1 ^^^ T (17 - (2 * j + 2))) (by rw [show 16 - 2 * j - 1 = 17 - (2 * j + 2) by omega]; exact bf_two2 T (fun i => T (17 - i)) _ _ _) ?_
    refine lv_istore (lv' := [(5, .int ((bf_rn T (fun i => T (17 - i)) (bf_wd B 0 4) (bf_wd B 4 4) (2 * j + 2)).1 ^^^ T (17 - (2 * j + 2)))), (6, .int ((bf_rn T (fun i => T (17 - i)) (bf_wd B 0 4) (bf_wd B 4 4) (2 * j + 2)).2)), (0, .ref h0), (1, .ref bb), (2, .int 0), (3, .ref ob), (4, .int 0), (7, .int (nI (16 - 2 * j)))]) hx hb dX2_decryptBlock_77 hl (by decide) rfl (fun ls hl => ?_)
    refine lv_iinc (v := nI (16 - 2 * (j + 1))) (lv' := [(7, .int (nI (16 - 2 * (j + 1)))), (5, .int ((bf_rn T (fun i => T (17 - i)) (bf_wd B 0 4) (bf_wd B 4 4) (2 * j + 2)).1 ^^^ T (17 - (2 * j + 2)))), (6, .int ((bf_rn T (fun i => T (17 - i)) (bf_wd B 0 4) (bf_wd B 4 4) (2 * j + 2)).2)), (0, .ref h0), (1, .ref bb), (2, .int 0), (3, .ref ob), (4, .int 0)]) hx hb dX2_decryptBlock_79 hl (k := 7) rfl (by rw [show Int32.ofInt (-2) = -(nI 2) by decide, ← Int32.sub_eq_add_neg, pk_sub (by omega), show 16 - 2 * j - 2 = 16 - 2 * (j + 1) by omega]) (by decide) rfl (fun ls hl => ?_)
    refine lv_goto (tgt := 34) hx hb dX2_decryptBlock_82 (by decide) ?_
    exact jh H locs ls ⟨hP, hD, hS, lv_sub hl [3, 4, 5, 6, 7, 1, 2, 0] rfl⟩
set_option maxHeartbeats 4000000 in
set_option maxRecDepth 100000 in
/-- processBlock(block, 0, out, 0), locking -/
theorem met_X2_processBlock_1 (l : Launch) (dC : Nat → ClassId) (dI : Nat → Nat → Nat) (cB cI : ClassId) (sz : Nat) (h0 a0 a1 a2 a3 a4 kb bb ob : Nat) (T B O : Nat → Int32) : Met l yX2_processBlock (ws_ yX2_processBlock cX2_processBlock 5 (some .int)) ({ frames := 2, cells := 0, slots := 0, locals := 50 }) (va_Pc [.ref h0, .ref bb, .int 0, .ref ob, .int 0] (bfPre (dC, dI) cB cI [(h0, .inr (2, [.ref a0, .ref a1, .ref a2, .ref a3, .ref a4, .int 1, .ref kb])), (a0, .inl (cI, 256, .inl (fun k => T (18 + k)))), (a1, .inl (cI, 256, .inl (fun k => T (274 + k)))), (a2, .inl (cI, 256, .inl (fun k => T (530 + k)))), (a3, .inl (cI, 256, .inl (fun k => T (786 + k)))), (a4, .inl (cI, 18, .inl T)), (bb, .inl (cB, 8, .inl B)), (ob, .inl (cB, 8, .inl O))] sz)) (va_Qi (fun (_ : Int32) (_ : Unit) => True) (fun _ t => bfPost (dC, dI) [(h0, .inr (2, [.ref a0, .ref a1, .ref a2, .ref a3, .ref a4, .int 1, .ref kb])), (a0, .inl (cI, 256, .inl (fun k => T (18 + k)))), (a1, .inl (cI, 256, .inl (fun k => T (274 + k)))), (a2, .inl (cI, 256, .inl (fun k => T (530 + k)))), (a3, .inl (cI, 256, .inl (fun k => T (786 + k)))), (a4, .inl (cI, 18, .inl T)), (bb, .inl (cB, 8, .inl B)), (ob, .inl (cB, 8, .inl (bf_put (bf_put O 0 (bf_cr T T (bf_wd B 0 4) (bf_wd B 4 4)).1) 4 (bf_cr T T (bf_wd B 0 4) (bf_wd B 4 4)).2)))] (va_A [(h0, .inr (2, [.ref a0, .ref a1, .ref a2, .ref a3, .ref a4, .int 1, .ref kb])), (a0, .inl (cI, 256, .inl (fun k => T (18 + k)))), (a1, .inl (cI, 256, .inl (fun k => T (274 + k)))), (a2, .inl (cI, 256, .inl (fun k => T (530 + k)))), (a3, .inl (cI, 256, .inl (fun k => T (786 + k)))), (a4, .inl (cI, 18, .inl T)), (bb, .inl (cB, 8, .inl B)), (ob, .inl (cB, 8, .inl O))] sz) t) (va_A [(h0, .inr (2, [.ref a0, .ref a1, .ref a2, .ref a3, .ref a4, .int 1, .ref kb])), (a0, .inl (cI, 256, .inl (fun k => T (18 + k)))), (a1, .inl (cI, 256, .inl (fun k => T (274 + k)))), (a2, .inl (cI, 256, .inl (fun k => T (530 + k)))), (a3, .inl (cI, 256, .inl (fun k => T (786 + k)))), (a4, .inl (cI, 18, .inl T)), (bb, .inl (cB, 8, .inl B)), (ob, .inl (cB, 8, .inl O))] sz)) 0 0 (va_A [(h0, .inr (2, [.ref a0, .ref a1, .ref a2, .ref a3, .ref a4, .int 1, .ref kb])), (a0, .inl (cI, 256, .inl (fun k => T (18 + k)))), (a1, .inl (cI, 256, .inl (fun k => T (274 + k)))), (a2, .inl (cI, 256, .inl (fun k => T (530 + k)))), (a3, .inl (cI, 256, .inl (fun k => T (786 + k)))), (a4, .inl (cI, 18, .inl T)), (bb, .inl (cB, 8, .inl B)), (ob, .inl (cB, 8, .inl O))] sz) := by
  refine Met.ofW (cc := cX2_processBlock) (maxL := 5) (ret := (some .int)) (by decide) rfl ?_
  intro p e s m args below meth c s₁ hBo hml hv
  obtain ⟨rfl, hsz, hP, hK, hD0⟩ := hv
  have hx := hBo.exec
  have hb := hBo.bytes
  have hr := hBo.returns
  have hts := atoms_spec (ws := (ws_ yX2_processBlock cX2_processBlock 5 (some .int))) hBo.pre
  have hts : ∀ w ∈ lw_all, w.before _ s = true := fun w h => hts w (List.mem_cons_of_mem _ h)
  have hown : s.vm.findClass RX2 = some m.cls := findClass_of_methodNamed hBo.named
  have hlocks := hBo.notSynchronized
  subst hsz
  have hD := hD0.self (sz := s.heap.size)
  generalize hAe : va_A [(h0, .inr (2, [.ref a0, .ref a1, .ref a2, .ref a3, .ref a4, .int 1, .ref kb])), (a0, .inl (cI, 256, .inl (fun k => T (18 + k)))), (a1, .inl (cI, 256, .inl (fun k => T (274 + k)))), (a2, .inl (cI, 256, .inl (fun k => T (530 + k)))), (a3, .inl (cI, 256, .inl (fun k => T (786 + k)))), (a4, .inl (cI, 18, .inl T)), (bb, .inl (cB, 8, .inl B)), (ob, .inl (cB, 8, .inl O))] s.heap.size = A at hD ⊢
  have hA : ∀ q : Nat, s.heap.size ≤ q → A q := fun q h => by rw [← hAe]; exact Or.inr h
  have hS : va_S A s.heap s.heap [] := va_S.rf
  have hl := lv_entry ([.ref h0, .ref bb, .int 0, .ref ob, .int 0]) (n := 5) (Nat.le_of_ble_eq_true rfl)
  rw [lg_entry_eq]
  generalize (lg_sl ([.ref h0, .ref bb, .int 0, .ref ob, .int 0]) ++ List.replicate (5 - (lg_sl ([.ref h0, .ref bb, .int 0, .ref ob, .int 0])).length) Slot.unset).toArray = ls at hl ⊢
  have hl : lv_has ls 5 [(0, .ref h0), (1, .ref bb), (2, .int 0), (3, .ref ob), (4, .int 0)] := hl
  refine lv_aload_n hx hb dX2_processBlock_0 rfl (lv_at hl 0 rfl) ?_
  refine va_get (D := (dC, dI)) (ci := 2) (v := .ref kb) (C := RX2) (T := TX2) (N := 7) hx hb hts in_X2 hown hK hP 0 rfl rfl 6 (by decide) (hts _ q80) (fun _ h9 => h9) rfl dX2_processBlock_1 ?_
  refine lv_ifnonnull (tgt := 17) hx hb dX2_processBlock_4 (by decide) ?_
  refine lv_iload_n hx hb dX2_processBlock_17 rfl (lv_at hl 2 rfl) ?_
  refine lv_bipush (v := 8) hx hb dX2_processBlock_18 (by decide) ?_
  refine lv_iadd hx hb dX2_processBlock_20 ?_
  refine lv_aload_n hx hb dX2_processBlock_21 rfl (lv_at hl 1 rfl) ?_
  refine va_alen (v := nI 8) hx hb hK hP 6 0 rfl rfl rfl dX2_processBlock_22 ?_
  refine lv_icmp_le (tgt := 36) hx hb dX2_processBlock_23 (by decide) (fun _ => ?_) (fun h9 => absurd (by decide) h9)
  refine lv_iload hx hb dX2_processBlock_36 (lv_at hl 4 rfl) ?_
  refine lv_bipush (v := 8) hx hb dX2_processBlock_38 (by decide) ?_
  refine lv_iadd hx hb dX2_processBlock_40 ?_
  refine lv_aload_n hx hb dX2_processBlock_41 rfl (lv_at hl 3 rfl) ?_
  refine va_alen (v := nI 8) hx hb hK hP 7 0 rfl rfl rfl dX2_processBlock_42 ?_
  refine lv_icmp_le (tgt := 56) hx hb dX2_processBlock_43 (by decide) (fun _ => ?_) (fun h9 => absurd (by decide) h9)
  refine lv_aload_n hx hb dX2_processBlock_56 rfl (lv_at hl 0 rfl) ?_
  refine va_get (D := (dC, dI)) (ci := 2) (v := .int 1) (C := RX2) (T := TX2) (N := 7) hx hb hts in_X2 hown hK hP 0 rfl rfl 5 (by decide) (hts _ q79) (fun _ h9 => h9) rfl dX2_processBlock_57 ?_
  refine lv_if_eq (tgt := 75) hx hb dX2_processBlock_60 (by decide) (fun h9 => absurd h9 (by decide)) (fun _ => ?_)
  refine lv_aload_n hx hb dX2_processBlock_63 rfl (lv_at hl 0 rfl) ?_
  refine lv_aload_n hx hb dX2_processBlock_64 rfl (lv_at hl 1 rfl) ?_
  refine lv_iload_n hx hb dX2_processBlock_65 rfl (lv_at hl 2 rfl) ?_
  refine lv_aload_n hx hb dX2_processBlock_66 rfl (lv_at hl 3 rfl) ?_
  refine lv_iload hx hb dX2_processBlock_67 (lv_at hl 4 rfl) ?_
  refine bf_callv (wr := []) (va_runV (As := [.ref bb, .int 0, .ref ob, .int 0]) (rest := []) ⟨hx, hb, hml, hown, hts⟩ (met_X2_encryptBlock l dC dI cB cI s.heap.size h0 a0 a1 a2 a3 a4 bb ob 1 (.ref kb) T B O) (cwV 4 hts (lw_V q285 q287 qs5 q16 q288) rfl rfl rfl (by decide +kernel) ⟨Nat.le_of_ble_eq_true rfl, Nat.le_of_ble_eq_true rfl⟩) (bf_preV hK hP hD [0, 1, 2, 3, 4, 5, 6, 7] (by decide) rfl (ci := 2) (q0 := 0) rfl rfl) rfl rfl hl.1 rfl (lv_room (Nat.le_of_ble_eq_true rfl)) dX2_processBlock_69 ⟨Nat.le_of_ble_eq_true rfl, Nat.le_of_ble_eq_true rfl⟩) hP hD hS hA [0, 1, 2, 3, 4, 5, 6, 7] [] rfl rfl (by decide) (by decide) (fun _ H locs hP hD hS => ?_)
  have hP : va_P (dC, dI) vwCl [(h0, .inr (2, [.ref a0, .ref a1, .ref a2, .ref a3, .ref a4, .int 1, .ref kb])), (a0, .inl (cI, 256, .inl (fun k => T (18 + k)))), (a1, .inl (cI, 256, .inl (fun k => T (274 + k)))), (a2, .inl (cI, 256, .inl (fun k => T (530 + k)))), (a3, .inl (cI, 256, .inl (fun k => T (786 + k)))), (a4, .inl (cI, 18, .inl T)), (bb, .inl (cB, 8, .inl B)), (ob, .inl (cB, 8, .inl (bf_put (bf_put O 0 (bf_cr T T (bf_wd B 0 4) (bf_wd B 4 4)).1) 4 (bf_cr T T (bf_wd B 0 4) (bf_wd B 4 4)).2)))] H := hP
  have hD : va_D A [(h0, .inr (2, [.ref a0, .ref a1, .ref a2, .ref a3, .ref a4, .int 1, .ref kb])), (a0, .inl (cI, 256, .inl (fun k => T (18 + k)))), (a1, .inl (cI, 256, .inl (fun k => T (274 + k)))), (a2, .inl (cI, 256, .inl (fun k => T (530 + k)))), (a3, .inl (cI, 256, .inl (fun k => T (786 + k)))), (a4, .inl (cI, 18, .inl T)), (bb, .inl (cB, 8, .inl B)), (ob, .inl (cB, 8, .inl (bf_put (bf_put O 0 (bf_cr T T (bf_wd B 0 4) (bf_wd B 4 4)).1) 4 (bf_cr T T (bf_wd B 0 4) (bf_wd B 4 4)).2)))] := hD
  refine lv_goto (tgt := 84) hx hb dX2_processBlock_72 (by decide) ?_
  refine lv_bipush (v := 8) hx hb dX2_processBlock_84 (by decide) ?_
  exact W.iret (v := 8) hx hb hr (fun t ht hW => ⟨⟨8, (), rfl, trivial, by rw [ht]; exact hP, hD⟩, hS.F ht⟩) hS.2.2 dX2_processBlock_86
set_option maxHeartbeats 4000000 in
set_option maxRecDepth 100000 in
/-- processBlock(block, 0, out, 0), opening -/
theorem met_X2_processBlock_0 (l : Launch) (dC : Nat → ClassId) (dI : Nat → Nat → Nat) (cB cI : ClassId) (sz : Nat) (h0 a0 a1 a2 a3 a4 kb bb ob : Nat) (T B O : Nat → Int32) : Met l yX2_processBlock (ws_ yX2_processBlock cX2_processBlock 5 (some .int)) ({ frames := 2, cells := 0, slots := 0, locals := 50 }) (va_Pc [.ref h0, .ref bb, .int 0, .ref ob, .int 0] (bfPre (dC, dI) cB cI [(h0, .inr (2, [.ref a0, .ref a1, .ref a2, .ref a3, .ref a4, .int 0, .ref kb])), (a0, .inl (cI, 256, .inl (fun k => T (18 + k)))), (a1, .inl (cI, 256, .inl (fun k => T (274 + k)))), (a2, .inl (cI, 256, .inl (fun k => T (530 + k)))), (a3, .inl (cI, 256, .inl (fun k => T (786 + k)))), (a4, .inl (cI, 18, .inl T)), (bb, .inl (cB, 8, .inl B)), (ob, .inl (cB, 8, .inl O))] sz)) (va_Qi (fun (_ : Int32) (_ : Unit) => True) (fun _ t => bfPost (dC, dI) [(h0, .inr (2, [.ref a0, .ref a1, .ref a2, .ref a3, .ref a4, .int 0, .ref kb])), (a0, .inl (cI, 256, .inl (fun k => T (18 + k)))), (a1, .inl (cI, 256, .inl (fun k => T (274 + k)))), (a2, .inl (cI, 256, .inl (fun k => T (530 + k)))), (a3, .inl (cI, 256, .inl (fun k => T (786 + k)))), (a4, .inl (cI, 18, .inl T)), (bb, .inl (cB, 8, .inl B)), (ob, .inl (cB, 8, .inl (bf_put (bf_put O 0 (bf_cr T (fun i => T (17 - i)) (bf_wd B 0 4) (bf_wd B 4 4)).1) 4 (bf_cr T (fun i => T (17 - i)) (bf_wd B 0 4) (bf_wd B 4 4)).2)))] (va_A [(h0, .inr (2, [.ref a0, .ref a1, .ref a2, .ref a3, .ref a4, .int 0, .ref kb])), (a0, .inl (cI, 256, .inl (fun k => T (18 + k)))), (a1, .inl (cI, 256, .inl (fun k => T (274 + k)))), (a2, .inl (cI, 256, .inl (fun k => T (530 + k)))), (a3, .inl (cI, 256, .inl (fun k => T (786 + k)))), (a4, .inl (cI, 18, .inl T)), (bb, .inl (cB, 8, .inl B)), (ob, .inl (cB, 8, .inl O))] sz) t) (va_A [(h0, .inr (2, [.ref a0, .ref a1, .ref a2, .ref a3, .ref a4, .int 0, .ref kb])), (a0, .inl (cI, 256, .inl (fun k => T (18 + k)))), (a1, .inl (cI, 256, .inl (fun k => T (274 + k)))), (a2, .inl (cI, 256, .inl (fun k => T (530 + k)))), (a3, .inl (cI, 256, .inl (fun k => T (786 + k)))), (a4, .inl (cI, 18, .inl T)), (bb, .inl (cB, 8, .inl B)), (ob, .inl (cB, 8, .inl O))] sz)) 0 0 (va_A [(h0, .inr (2, [.ref a0, .ref a1, .ref a2, .ref a3, .ref a4, .int 0, .ref kb])), (a0, .inl (cI, 256, .inl (fun k => T (18 + k)))), (a1, .inl (cI, 256, .inl (fun k => T (274 + k)))), (a2, .inl (cI, 256, .inl (fun k => T (530 + k)))), (a3, .inl (cI, 256, .inl (fun k => T (786 + k)))), (a4, .inl (cI, 18, .inl T)), (bb, .inl (cB, 8, .inl B)), (ob, .inl (cB, 8, .inl O))] sz) := by
  refine Met.ofW (cc := cX2_processBlock) (maxL := 5) (ret := (some .int)) (by decide) rfl ?_
  intro p e s m args below meth c s₁ hBo hml hv
  obtain ⟨rfl, hsz, hP, hK, hD0⟩ := hv
  have hx := hBo.exec
  have hb := hBo.bytes
  have hr := hBo.returns
  have hts := atoms_spec (ws := (ws_ yX2_processBlock cX2_processBlock 5 (some .int))) hBo.pre
  have hts : ∀ w ∈ lw_all, w.before _ s = true := fun w h => hts w (List.mem_cons_of_mem _ h)
  have hown : s.vm.findClass RX2 = some m.cls := findClass_of_methodNamed hBo.named
  have hlocks := hBo.notSynchronized
  subst hsz
  have hD := hD0.self (sz := s.heap.size)
  generalize hAe : va_A [(h0, .inr (2, [.ref a0, .ref a1, .ref a2, .ref a3, .ref a4, .int 0, .ref kb])), (a0, .inl (cI, 256, .inl (fun k => T (18 + k)))), (a1, .inl (cI, 256, .inl (fun k => T (274 + k)))), (a2, .inl (cI, 256, .inl (fun k => T (530 + k)))), (a3, .inl (cI, 256, .inl (fun k => T (786 + k)))), (a4, .inl (cI, 18, .inl T)), (bb, .inl (cB, 8, .inl B)), (ob, .inl (cB, 8, .inl O))] s.heap.size = A at hD ⊢
  have hA : ∀ q : Nat, s.heap.size ≤ q → A q := fun q h => by rw [← hAe]; exact Or.inr h
  have hS : va_S A s.heap s.heap [] := va_S.rf
  have hl := lv_entry ([.ref h0, .ref bb, .int 0, .ref ob, .int 0]) (n := 5) (Nat.le_of_ble_eq_true rfl)
  rw [lg_entry_eq]
  generalize (lg_sl ([.ref h0, .ref bb, .int 0, .ref ob, .int 0]) ++ List.replicate (5 - (lg_sl ([.ref h0, .ref bb, .int 0, .ref ob, .int 0])).length) Slot.unset).toArray = ls at hl ⊢
  have hl : lv_has ls 5 [(0, .ref h0), (1, .ref bb), (2, .int 0), (3, .ref ob), (4, .int 0)] := hl
  refine lv_aload_n hx hb dX2_processBlock_0 rfl (lv_at hl 0 rfl) ?_
  refine va_get (D := (dC, dI)) (ci := 2) (v := .ref kb) (C := RX2) (T := TX2) (N := 7) hx hb hts in_X2 hown hK hP 0 rfl rfl 6 (by decide) (hts _ q80) (fun _ h9 => h9) rfl dX2_processBlock_1 ?_
  refine lv_ifnonnull (tgt := 17) hx hb dX2_processBlock_4 (by decide) ?_
  refine lv_iload_n hx hb dX2_processBlock_17 rfl (lv_at hl 2 rfl) ?_
  refine lv_bipush (v := 8) hx hb dX2_processBlock_18 (by decide) ?_
  refine lv_iadd hx hb dX2_processBlock_20 ?_
  refine lv_aload_n hx hb dX2_processBlock_21 rfl (lv_at hl 1 rfl) ?_
  refine va_alen (v := nI 8) hx hb hK hP 6 0 rfl rfl rfl dX2_processBlock_22 ?_
  refine lv_icmp_le (tgt := 36) hx hb dX2_processBlock_23 (by decide) (fun _ => ?_) (fun h9 => absurd (by decide) h9)
  refine lv_iload hx hb dX2_processBlock_36 (lv_at hl 4 rfl) ?_
  refine lv_bipush (v := 8) hx hb dX2_processBlock_38 (by decide) ?_
  refine lv_iadd hx hb dX2_processBlock_40 ?_
  refine lv_aload_n hx hb dX2_processBlock_41 rfl (lv_at hl 3 rfl) ?_
  refine va_alen (v := nI 8) hx hb hK hP 7 0 rfl rfl rfl dX2_processBlock_42 ?_
  refine lv_icmp_le (tgt := 56) hx hb dX2_processBlock_43 (by decide) (fun _ => ?_) (fun h9 => absurd (by decide) h9)
  refine lv_aload_n hx hb dX2_processBlock_56 rfl (lv_at hl 0 rfl) ?_
  refine va_get (D := (dC, dI)) (ci := 2) (v := .int 0) (C := RX2) (T := TX2) (N := 7) hx hb hts in_X2 hown hK hP 0 rfl rfl 5 (by decide) (hts _ q79) (fun _ h9 => h9) rfl dX2_processBlock_57 ?_
  refine lv_if_eq (tgt := 75) hx hb dX2_processBlock_60 (by decide) (fun _ => ?_) (fun h9 => absurd (by decide) h9)
  refine lv_aload_n hx hb dX2_processBlock_75 rfl (lv_at hl 0 rfl) ?_
  refine lv_aload_n hx hb dX2_processBlock_76 rfl (lv_at hl 1 rfl) ?_
  refine lv_iload_n hx hb dX2_processBlock_77 rfl (lv_at hl 2 rfl) ?_
  refine lv_aload_n hx hb dX2_processBlock_78 rfl (lv_at hl 3 rfl) ?_
  refine lv_iload hx hb dX2_processBlock_79 (lv_at hl 4 rfl) ?_
  refine bf_callv (wr := []) (va_runV (As := [.ref bb, .int 0, .ref ob, .int 0]) (rest := []) ⟨hx, hb, hml, hown, hts⟩ (met_X2_decryptBlock l dC dI cB cI s.heap.size h0 a0 a1 a2 a3 a4 bb ob 0 (.ref kb) T B O) (cwV 4 hts (lw_V q297 q299 qs8 q16 q300) rfl rfl rfl (by decide +kernel) ⟨Nat.le_of_ble_eq_true rfl, Nat.le_of_ble_eq_true rfl⟩) (bf_preV hK hP hD [0, 1, 2, 3, 4, 5, 6, 7] (by decide) rfl (ci := 2) (q0 := 0) rfl rfl) rfl rfl hl.1 rfl (lv_room (Nat.le_of_ble_eq_true rfl)) dX2_processBlock_81 ⟨Nat.le_of_ble_eq_true rfl, Nat.le_of_ble_eq_true rfl⟩) hP hD hS hA [0, 1, 2, 3, 4, 5, 6, 7] [] rfl rfl (by decide) (by decide) (fun _ H locs hP hD hS => ?_)
  have hP : va_P (dC, dI) vwCl [(h0, .inr (2, [.ref a0, .ref a1, .ref a2, .ref a3, .ref a4, .int 0, .ref kb])), (a0, .inl (cI, 256, .inl (fun k => T (18 + k)))), (a1, .inl (cI, 256, .inl (fun k => T (274 + k)))), (a2, .inl (cI, 256, .inl (fun k => T (530 + k)))), (a3, .inl (cI, 256, .inl (fun k => T (786 + k)))), (a4, .inl (cI, 18, .inl T)), (bb, .inl (cB, 8, .inl B)), (ob, .inl (cB, 8, .inl (bf_put (bf_put O 0 (bf_cr T (fun i => T (17 - i)) (bf_wd B 0 4) (bf_wd B 4 4)).1) 4 (bf_cr T (fun i => T (17 - i)) (bf_wd B 0 4) (bf_wd B 4 4)).2)))] H := hP
  have hD : va_D A [(h0, .inr (2, [.ref a0, .ref a1, .ref a2, .ref a3, .ref a4, .int 0, .ref kb])), (a0, .inl (cI, 256, .inl (fun k => T (18 + k)))), (a1, .inl (cI, 256, .inl (fun k => T (274 + k)))), (a2, .inl (cI, 256, .inl (fun k => T (530 + k)))), (a3, .inl (cI, 256, .inl (fun k => T (786 + k)))), (a4, .inl (cI, 18, .inl T)), (bb, .inl (cB, 8, .inl B)), (ob, .inl (cB, 8, .inl (bf_put (bf_put O 0 (bf_cr T (fun i => T (17 - i)) (bf_wd B 0 4) (bf_wd B 4 4)).1) 4 (bf_cr T (fun i => T (17 - i)) (bf_wd B 0 4) (bf_wd B 4 4)).2)))] := hD
  refine lv_bipush (v := 8) hx hb dX2_processBlock_84 (by decide) ?_
  exact W.iret (v := 8) hx hb hr (fun t ht hW => ⟨⟨8, (), rfl, trivial, by rw [ht]; exact hP, hD⟩, hS.F ht⟩) hS.2.2 dX2_processBlock_86
set_option maxHeartbeats 4000000 in
set_option maxRecDepth 100000 in
/-- BlowfishEngine(): five new arrays -/
theorem met_X2_init (l : Launch) (dC : Nat → ClassId) (dI : Nat → Nat → Nat) (cB cI : ClassId) (sz : Nat) (h0 : Nat) : Met l yX2_init (ws_ yX2_init cX2_init 1 none) ({ frames := 1, cells := 5, slots := 1042, locals := 12 }) (va_Pc [.ref h0] (bfPre (dC, dI) cB cI [(h0, .inr (2, [.null, .null, .null, .null, .null, .int 0, .null]))] sz)) (va_Qv (fun _ : Nat × Nat × Nat × Nat × Nat => True) (fun u t => bfPost (dC, dI) [(h0, .inr (2, [.ref u.1, .ref u.2.1, .ref u.2.2.1, .ref u.2.2.2.1, .ref u.2.2.2.2, .int 0, .null])), (u.1, .inl (cI, 256, .inl (fun _ => 0))), (u.2.1, .inl (cI, 256, .inl (fun _ => 0))), (u.2.2.1, .inl (cI, 256, .inl (fun _ => 0))), (u.2.2.2.1, .inl (cI, 256, .inl (fun _ => 0))), (u.2.2.2.2, .inl (cI, 18, .inl (fun _ => 0)))] (va_A [(h0, .inr (2, [.null, .null, .null, .null, .null, .int 0, .null]))] sz) t) (va_A [(h0, .inr (2, [.null, .null, .null, .null, .null, .int 0, .null]))] sz)) 5 1042 (va_A [(h0, .inr (2, [.null, .null, .null, .null, .null, .int 0, .null]))] sz) := by
  refine Met.ofW (cc := cX2_init) (maxL := 1) (ret := none) (by decide) rfl ?_
  intro p e s m args below meth c s₁ hBo hml hv
  obtain ⟨rfl, hsz, hP, hK, hD0⟩ := hv
  have hx := hBo.exec
  have hb := hBo.bytes
  have hr := hBo.returns
  have hts := atoms_spec (ws := (ws_ yX2_init cX2_init 1 none)) hBo.pre
  have hts : ∀ w ∈ lw_all, w.before _ s = true := fun w h => hts w (List.mem_cons_of_mem _ h)
  have hown : s.vm.findClass RX2 = some m.cls := findClass_of_methodNamed hBo.named
  have hlocks := hBo.notSynchronized
  have hin : meth.name = "<init>" := (name_of_methodNamed hBo.named hBo.method).1
  subst hsz
  have hD := hD0.self (sz := s.heap.size)
  generalize hAe : va_A [(h0, .inr (2, [.null, .null, .null, .null, .null, .int 0, .null]))] s.heap.size = A at hD ⊢
  have hA : ∀ q : Nat, s.heap.size ≤ q → A q := fun q h => by rw [← hAe]; exact Or.inr h
  have hS : va_S A s.heap s.heap [] := va_S.rf
  have hl := lv_entry ([.ref h0]) (n := 1) (Nat.le_of_ble_eq_true rfl)
  rw [lg_entry_eq]
  generalize (lg_sl ([.ref h0]) ++ List.replicate (1 - (lg_sl ([.ref h0])).length) Slot.unset).toArray = ls at hl ⊢
  have hl : lv_has ls 1 [(0, .ref h0)] := hl
  refine lv_aload_n hx hb dX2_init_0 rfl (lv_at hl 0 rfl) ?_
  refine W.objInit hx hb hown (hts _ q73) (hts _ q33) (hts _ q34) rfl (by rw [hml]; exact hl.1) rfl dX2_init_1 (Nat.le_of_ble_eq_true rfl) (Nat.le_of_ble_eq_true rfl) ?_
  refine W.eq (g2 := F0 m 4 ls []) rfl ?_
  refine lv_aload_n hx hb dX2_init_4 rfl (lv_at hl 0 rfl) ?_
  refine lv_iconst (v := 0) hx hb dX2_init_5 (by decide) ?_
  refine va_put (D := (dC, dI)) (ci := 2) (v := .int 0) (ty := .boolean) (C := RX2) (T := TX2) (N := 7) hx hb hts in_X2 tyX2 tyX2_ok nmX2 hown hK hP hD hS 0 rfl rfl 5 (by decide) (hts _ q79) (fun _ h9 => h9) rfl (by decide +kernel) (by decide) (by decide) (Nat.le_of_ble_eq_true rfl) dX2_init_6 (fun H locs hP hD hS => ?_)
  have hP : va_P (dC, dI) vwCl [(h0, .inr (2, [.null, .null, .null, .null, .null, .int 0, .null]))] H := hP
  have hD : va_D A [(h0, .inr (2, [.null, .null, .null, .null, .null, .int 0, .null]))] := hD
  refine lv_aload_n hx hb dX2_init_9 rfl (lv_at hl 0 rfl) ?_
  refine lv_null hx hb dX2_init_10 ?_
  refine va_put (D := (dC, dI)) (ci := 2) (v := .null) (ty := .array .byte) (C := RX2) (T := TX2) (N := 7) hx hb hts in_X2 tyX2 tyX2_ok nmX2 hown hK hP hD hS 0 rfl rfl 6 (by decide) (hts _ q80) (fun _ h9 => h9) rfl (by decide +kernel) rfl rfl (Nat.le_of_ble_eq_true rfl) dX2_init_11 (fun H locs hP hD hS => ?_)
  have hP : va_P (dC, dI) vwCl [(h0, .inr (2, [.null, .null, .null, .null, .null, .int 0, .null]))] H := hP
  have hD : va_D A [(h0, .inr (2, [.null, .null, .null, .null, .null, .int 0, .null]))] := hD
  refine lv_aload_n hx hb dX2_init_14 rfl (lv_at hl 0 rfl) ?_
  refine lv_sipush (v := 256) hx hb dX2_init_15 (by decide) ?_
  refine bf_newa (atype := .int) hx hb (hts _ q96) rfl hK 1 rfl (fun z z' h h' => Option.some.inj (h.symm.trans h')) hP hD hS hA dX2_init_18 256 rfl (Nat.le_of_ble_eq_true rfl) (256, .inl (fun _ => 0)) (fun _ => rfl) (Nat.le_of_ble_eq_true rfl) (Nat.le_of_ble_eq_true rfl) (Nat.le_of_ble_eq_true rfl) (fun a0 H hP hD hS => ?_)
  have hP : va_P (dC, dI) vwCl [(h0, .inr (2, [.null, .null, .null, .null, .null, .int 0, .null])), (a0, .inl (cI, 256, .inl (fun _ => 0)))] H := hP
  have hD : va_D A [(h0, .inr (2, [.null, .null, .null, .null, .null, .int 0, .null])), (a0, .inl (cI, 256, .inl (fun _ => 0)))] := hD
  refine va_putF (D := (dC, dI)) (ci := 2) (v := .ref a0) (ty := .array .int) (C := RX2) (T := TX2) (N := 7) hx hb hts in_X2 tyX2 tyX2_ok nmX2 hown hK hP hD hS 0 rfl rfl 0 (by decide) (hts _ q74) (fun _ h9 => h9) rfl hin rfl (by decide +kernel) rfl rfl (Nat.le_of_ble_eq_true rfl) dX2_init_20 (fun H locs hP hD hS => ?_)
  have hP : va_P (dC, dI) vwCl [(h0, .inr (2, [.ref a0, .null, .null, .null, .null, .int 0, .null])), (a0, .inl (cI, 256, .inl (fun _ => 0)))] H := hP
  have hD : va_D A [(h0, .inr (2, [.ref a0, .null, .null, .null, .null, .int 0, .null])), (a0, .inl (cI, 256, .inl (fun _ => 0)))] := hD
  refine lv_aload_n hx hb dX2_init_23 rfl (lv_at hl 0 rfl) ?_
  refine lv_sipush (v := 256) hx hb dX2_init_24 (by decide) ?_
  refine bf_newa (atype := .int) hx hb (hts _ q96) rfl hK 1 rfl (fun z z' h h' => Option.some.inj (h.symm.trans h')) hP hD hS hA dX2_init_27 256 rfl (Nat.le_of_ble_eq_true rfl) (256, .inl (fun _ => 0)) (fun _ => rfl) (Nat.le_of_ble_eq_true rfl) (Nat.le_of_ble_eq_true rfl) (Nat.le_of_ble_eq_true rfl) (fun a1 H hP hD hS => ?_)
  have hP : va_P (dC, dI) vwCl [(h0, .inr (2, [.ref a0, .null, .null, .null, .null, .int 0, .null])), (a0, .inl (cI, 256, .inl (fun _ => 0))), (a1, .inl (cI, 256, .inl (fun _ => 0)))] H := hP
  have hD : va_D A [(h0, .inr (2, [.ref a0, .null, .null, .null, .null, .int 0, .null])), (a0, .inl (cI, 256, .inl (fun _ => 0))), (a1, .inl (cI, 256, .inl (fun _ => 0)))] := hD
  refine va_putF (D := (dC, dI)) (ci := 2) (v := .ref a1) (ty := .array .int) (C := RX2) (T := TX2) (N := 7) hx hb hts in_X2 tyX2 tyX2_ok nmX2 hown hK hP hD hS 0 rfl rfl 1 (by decide) (hts _ q75) (fun _ h9 => h9) rfl hin rfl (by decide +kernel) rfl rfl (Nat.le_of_ble_eq_true rfl) dX2_init_29 (fun H locs hP hD hS => ?_)
  have hP : va_P (dC, dI) vwCl [(h0, .inr (2, [.ref a0, .ref a1, .null, .null, .null, .int 0, .null])), (a0, .inl (cI, 256, .inl (fun _ => 0))), (a1, .inl (cI, 256, .inl (fun _ => 0)))] H := hP
  have hD : va_D A [(h0, .inr (2, [.ref a0, .ref a1, .null, .null, .null, .int 0, .null])), (a0, .inl (cI, 256, .inl (fun _ => 0))), (a1, .inl (cI, 256, .inl (fun _ => 0)))] := hD
  refine lv_aload_n hx hb dX2_init_32 rfl (lv_at hl 0 rfl) ?_
  refine lv_sipush (v := 256) hx hb dX2_init_33 (by decide) ?_
  refine bf_newa (atype := .int) hx hb (hts _ q96) rfl hK 1 rfl (fun z z' h h' => Option.some.inj (h.symm.trans h')) hP hD hS hA dX2_init_36 256 rfl (Nat.le_of_ble_eq_true rfl) (256, .inl (fun _ => 0)) (fun _ => rfl) (Nat.le_of_ble_eq_true rfl) (Nat.le_of_ble_eq_true rfl) (Nat.le_of_ble_eq_true rfl) (fun a2 H hP hD hS => ?_)
  have hP : va_P (dC, dI) vwCl [(h0, .inr (2, [.ref a0, .ref a1, .null, .null, .null, .int 0, .null])), (a0, .inl (cI, 256, .inl (fun _ => 0))), (a1, .inl (cI, 256, .inl (fun _ => 0))), (a2, .inl (cI, 256, .inl (fun _ => 0)))] H := hP
  have hD : va_D A [(h0, .inr (2, [.ref a0, .ref a1, .null, .null, .null, .int 0, .null])), (a0, .inl (cI, 256, .inl (fun _ => 0))), (a1, .inl (cI, 256, .inl (fun _ => 0))), (a2, .inl (cI, 256, .inl (fun _ => 0)))] := hD
  refine va_putF (D := (dC, dI)) (ci := 2) (v := .ref a2) (ty := .array .int) (C := RX2) (T := TX2) (N := 7) hx hb hts in_X2 tyX2 tyX2_ok nmX2 hown hK hP hD hS 0 rfl rfl 2 (by decide) (hts _ q76) (fun _ h9 => h9) rfl hin rfl (by decide +kernel) rfl rfl (Nat.le_of_ble_eq_true rfl) dX2_init_38 (fun H locs hP hD hS => ?_)
  have hP : va_P (dC, dI) vwCl [(h0, .inr (2, [.ref a0, .ref a1, .ref a2, .null, .null, .int 0, .null])), (a0, .inl (cI, 256, .inl (fun _ => 0))), (a1, .inl (cI, 256, .inl (fun _ => 0))), (a2, .inl (cI, 256, .inl (fun _ => 0)))] H := hP
  have hD : va_D A [(h0, .inr (2, [.ref a0, .ref a1, .ref a2, .null, .null, .int 0, .null])), (a0, .inl (cI, 256, .inl (fun _ => 0))), (a1, .inl (cI, 256, .inl (fun _ => 0))), (a2, .inl (cI, 256, .inl (fun _ => 0)))] := hD
  refine lv_aload_n hx hb dX2_init_41 rfl (lv_at hl 0 rfl) ?_
  refine lv_sipush (v := 256) hx hb dX2_init_42 (by decide) ?_
  refine bf_newa (atype := .int) hx hb (hts _ q96) rfl hK 1 rfl (fun z z' h h' => Option.some.inj (h.symm.trans h')) hP hD hS hA dX2_init_45 256 rfl (Nat.le_of_ble_eq_true rfl) (256, .inl (fun _ => 0)) (fun _ => rfl) (Nat.le_of_ble_eq_true rfl) (Nat.le_of_ble_eq_true rfl) (Nat.le_of_ble_eq_true rfl) (fun a3 H hP hD hS => ?_)
  have hP : va_P (dC, dI) vwCl [(h0, .inr (2, [.ref a0, .ref a1, .ref a2, .null, .null, .int 0, .null])), (a0, .inl (cI, 256, .inl (fun _ => 0))), (a1, .inl (cI, 256, .inl (fun _ => 0))), (a2, .inl (cI, 256, .inl (fun _ => 0))), (a3, .inl (cI, 256, .inl (fun _ => 0)))] H := hP
  have hD : va_D A [(h0, .inr (2, [.ref a0, .ref a1, .ref a2, .null, .null, .int 0, .null])), (a0, .inl (cI, 256, .inl (fun _ => 0))), (a1, .inl (cI, 256, .inl (fun _ => 0))), (a2, .inl (cI, 256, .inl (fun _ => 0))), (a3, .inl (cI, 256, .inl (fun _ => 0)))] := hD
  refine va_putF (D := (dC, dI)) (ci := 2) (v := .ref a3) (ty := .array .int) (C := RX2) (T := TX2) (N := 7) hx hb hts in_X2 tyX2 tyX2_ok nmX2 hown hK hP hD hS 0 rfl rfl 3 (by decide) (hts _ q77) (fun _ h9 => h9) rfl hin rfl (by decide +kernel) rfl rfl (Nat.le_of_ble_eq_true rfl) dX2_init_47 (fun H locs hP hD hS => ?_)
  have hP : va_P (dC, dI) vwCl [(h0, .inr (2, [.ref a0, .ref a1, .ref a2, .ref a3, .null, .int 0, .null])), (a0, .inl (cI, 256, .inl (fun _ => 0))), (a1, .inl (cI, 256, .inl (fun _ => 0))), (a2, .inl (cI, 256, .inl (fun _ => 0))), (a3, .inl (cI, 256, .inl (fun _ => 0)))] H := hP
  have hD : va_D A [(h0, .inr (2, [.ref a0, .ref a1, .ref a2, .ref a3, .null, .int 0, .null])), (a0, .inl (cI, 256, .inl (fun _ => 0))), (a1, .inl (cI, 256, .inl (fun _ => 0))), (a2, .inl (cI, 256, .inl (fun _ => 0))), (a3, .inl (cI, 256, .inl (fun _ => 0)))] := hD
  refine lv_aload_n hx hb dX2_init_50 rfl (lv_at hl 0 rfl) ?_
  refine lv_bipush (v := 18) hx hb dX2_init_51 (by decide) ?_
  refine bf_newa (atype := .int) hx hb (hts _ q96) rfl hK 1 rfl (fun z z' h h' => Option.some.inj (h.symm.trans h')) hP hD hS hA dX2_init_53 18 rfl (Nat.le_of_ble_eq_true rfl) (18, .inl (fun _ => 0)) (fun _ => rfl) (Nat.le_of_ble_eq_true rfl) (Nat.le_of_ble_eq_true rfl) (Nat.le_of_ble_eq_true rfl) (fun a4 H hP hD hS => ?_)
  have hP : va_P (dC, dI) vwCl [(h0, .inr (2, [.ref a0, .ref a1, .ref a2, .ref a3, .null, .int 0, .null])), (a0, .inl (cI, 256, .inl (fun _ => 0))), (a1, .inl (cI, 256, .inl (fun _ => 0))), (a2, .inl (cI, 256, .inl (fun _ => 0))), (a3, .inl (cI, 256, .inl (fun _ => 0))), (a4, .inl (cI, 18, .inl (fun _ => 0)))] H := hP
  have hD : va_D A [(h0, .inr (2, [.ref a0, .ref a1, .ref a2, .ref a3, .null, .int 0, .null])), (a0, .inl (cI, 256, .inl (fun _ => 0))), (a1, .inl (cI, 256, .inl (fun _ => 0))), (a2, .inl (cI, 256, .inl (fun _ => 0))), (a3, .inl (cI, 256, .inl (fun _ => 0))), (a4, .inl (cI, 18, .inl (fun _ => 0)))] := hD
  refine va_putF (D := (dC, dI)) (ci := 2) (v := .ref a4) (ty := .array .int) (C := RX2) (T := TX2) (N := 7) hx hb hts in_X2 tyX2 tyX2_ok nmX2 hown hK hP hD hS 0 rfl rfl 4 (by decide) (hts _ q78) (fun _ h9 => h9) rfl hin rfl (by decide +kernel) rfl rfl (Nat.le_of_ble_eq_true rfl) dX2_init_55 (fun H locs hP hD hS => ?_)
  have hP : va_P (dC, dI) vwCl [(h0, .inr (2, [.ref a0, .ref a1, .ref a2, .ref a3, .ref a4, .int 0, .null])), (a0, .inl (cI, 256, .inl (fun _ => 0))), (a1, .inl (cI, 256, .inl (fun _ => 0))), (a2, .inl (cI, 256, .inl (fun _ => 0))), (a3, .inl (cI, 256, .inl (fun _ => 0))), (a4, .inl (cI, 18, .inl (fun _ => 0)))] H := hP
  have hD : va_D A [(h0, .inr (2, [.ref a0, .ref a1, .ref a2, .ref a3, .ref a4, .int 0, .null])), (a0, .inl (cI, 256, .inl (fun _ => 0))), (a1, .inl (cI, 256, .inl (fun _ => 0))), (a2, .inl (cI, 256, .inl (fun _ => 0))), (a3, .inl (cI, 256, .inl (fun _ => 0))), (a4, .inl (cI, 18, .inl (fun _ => 0)))] := hD
  exact W.vret hx hb hr (fun t ht hW => ⟨⟨(a0, a1, a2, a3, a4), rfl, trivial, by rw [ht]; exact hP, hD⟩, hS.F ht⟩) hS.2.2 dX2_init_58
set_option maxHeartbeats 4000000 in
set_option maxRecDepth 100000 in
/-- setKey(key): the tables as the key makes them -/
theorem met_X2_setKey (l : Launch) (dC : Nat → ClassId) (dI : Nat → Nat → Nat) (cB cI : ClassId) (tS : Nat → Nat) (sz : Nat) (h0 a0 a1 a2 a3 a4 kb n : Nat) (en : Int32) (wk : Value) (g0 g1 g2 g3 g4 f : Nat → Int32) (hn4 : 4 ≤ n) (hn56 : n ≤ 56) : Met l yX2_setKey (ws_ yX2_setKey cX2_setKey 7 none) ({ frames := 2, cells := 0, slots := 0, locals := 47 }) (va_Pc [.ref h0, .ref kb] (bfPreX (dC, dI) cB cI tS [(h0, .inr (2, [.ref a0, .ref a1, .ref a2, .ref a3, .ref a4, .int en, wk])), (a0, .inl (cI, 256, .inl g0)), (a1, .inl (cI, 256, .inl g1)), (a2, .inl (cI, 256, .inl g2)), (a3, .inl (cI, 256, .inl g3)), (a4, .inl (cI, 18, .inl g4)), (kb, .inl (cB, n, .inl f))] sz)) (va_Qv (fun _ : Unit => True) (fun _ t => bfPost (dC, dI) [(h0, .inr (2, [.ref a0, .ref a1, .ref a2, .ref a3, .ref a4, .int en, wk])), (a0, .inl (cI, 256, .inl (fun k => (bf_sch bf_PI f n) (18 + k)))), (a1, .inl (cI, 256, .inl (fun k => (bf_sch bf_PI f n) (274 + k)))), (a2, .inl (cI, 256, .inl (fun k => (bf_sch bf_PI f n) (530 + k)))), (a3, .inl (cI, 256, .inl (fun k => (bf_sch bf_PI f n) (786 + k)))), (a4, .inl (cI, 18, .inl (bf_sch bf_PI f n))), (kb, .inl (cB, n, .inl f))] (va_A [(h0, .inr (2, [.ref a0, .ref a1, .ref a2, .ref a3, .ref a4, .int en, wk])), (a0, .inl (cI, 256, .inl g0)), (a1, .inl (cI, 256, .inl g1)), (a2, .inl (cI, 256, .inl g2)), (a3, .inl (cI, 256, .inl g3)), (a4, .inl (cI, 18, .inl g4)), (kb, .inl (cB, n, .inl f))] sz) t) (va_A [(h0, .inr (2, [.ref a0, .ref a1, .ref a2, .ref a3, .ref a4, .int en, wk])), (a0, .inl (cI, 256, .inl g0)), (a1, .inl (cI, 256, .inl g1)), (a2, .inl (cI, 256, .inl g2)), (a3, .inl (cI, 256, .inl g3)), (a4, .inl (cI, 18, .inl g4)), (kb, .inl (cB, n, .inl f))] sz)) 0 0 (va_A [(h0, .inr (2, [.ref a0, .ref a1, .ref a2, .ref a3, .ref a4, .int en, wk])), (a0, .inl (cI, 256, .inl g0)), (a1, .inl (cI, 256, .inl g1)), (a2, .inl (cI, 256, .inl g2)), (a3, .inl (cI, 256, .inl g3)), (a4, .inl (cI, 18, .inl g4)), (kb, .inl (cB, n, .inl f))] sz) := by
  refine Met.ofW (cc := cX2_setKey) (maxL := 7) (ret := none) (by decide) rfl ?_
  intro p e s m args below meth c s₁ hBo hml hv
  obtain ⟨rfl, ⟨hsz, hP, hK, hD0⟩, hX⟩ := hv
  have hx := hBo.exec
  have hb := hBo.bytes
  have hr := hBo.returns
  have hts := atoms_spec (ws := (ws_ yX2_setKey cX2_setKey 7 none)) hBo.pre
  have hts : ∀ w ∈ lw_all, w.before _ s = true := fun w h => hts w (List.mem_cons_of_mem _ h)
  have hown : s.vm.findClass RX2 = some m.cls := findClass_of_methodNamed hBo.named
  have hlocks := hBo.notSynchronized
  subst hsz
  have hD := hD0.self (sz := s.heap.size)
  generalize hAe : va_A [(h0, .inr (2, [.ref a0, .ref a1, .ref a2, .ref a3, .ref a4, .int en, wk])), (a0, .inl (cI, 256, .inl g0)), (a1, .inl (cI, 256, .inl g1)), (a2, .inl (cI, 256, .inl g2)), (a3, .inl (cI, 256, .inl g3)), (a4, .inl (cI, 18, .inl g4)), (kb, .inl (cB, n, .inl f))] s.heap.size = A at hD ⊢ hX
  have hA : ∀ q : Nat, s.heap.size ≤ q → A q := fun q h => by rw [← hAe]; exact Or.inr h
  have hS : va_S A s.heap s.heap [] := va_S.rf
  have hl := lv_entry ([.ref h0, .ref kb]) (n := 7) (Nat.le_of_ble_eq_true rfl)
  rw [lg_entry_eq]
  generalize (lg_sl ([.ref h0, .ref kb]) ++ List.replicate (7 - (lg_sl ([.ref h0, .ref kb])).length) Slot.unset).toArray = ls at hl ⊢
  have hl : lv_has ls 7 [(0, .ref h0), (1, .ref kb)] := hl
  refine lv_aload_n hx hb dX2_setKey_0 rfl (lv_at hl 1 rfl) ?_
  refine va_alen (v := nI n) hx hb hK hP 6 0 rfl rfl rfl dX2_setKey_1 ?_
  refine lv_iconst (v := 4) hx hb dX2_setKey_2 (by decide) ?_
  refine lv_icmp_lt (tgt := 13) hx hb dX2_setKey_3 (by decide) (fun h9 => absurd h9 (nI_nlt (b := 4) hn4 (by omega))) (fun _ => ?_)
  refine lv_aload_n hx hb dX2_setKey_6 rfl (lv_at hl 1 rfl) ?_
  refine va_alen (v := nI n) hx hb hK hP 6 0 rfl rfl rfl dX2_setKey_7 ?_
  refine lv_bipush (v := 56) hx hb dX2_setKey_8 (by decide) ?_
  refine lv_icmp_le (tgt := 23) hx hb dX2_setKey_10 (by decide) (fun _ => ?_) (fun h9 => absurd (nI_le (b := 56) hn56 (Nat.le_of_ble_eq_true rfl)) h9)
  obtain ⟨hX0, hX1, hX2, hX3, hX4, -, -, -⟩ := id hX
  refine va_gets hx hb hX0.1 hS hown (hts _ q203) (fun _ h9 => h9) dX2_setKey_23 ?_
  refine lv_iconst (v := 0) hx hb dX2_setKey_26 (by decide) ?_
  refine lv_aload_n hx hb dX2_setKey_27 rfl (lv_at hl 0 rfl) ?_
  refine va_get (D := (dC, dI)) (ci := 2) (v := .ref a0) (C := RX2) (T := TX2) (N := 7) hx hb hts in_X2 hown hK hP 0 rfl rfl 0 (by decide) (hts _ q74) (fun _ h9 => h9) rfl dX2_setKey_28 ?_
  refine lv_iconst (v := 0) hx hb dX2_setKey_31 (by decide) ?_
  refine lv_sipush (v := 256) hx hb dX2_setKey_32 (by decide) ?_
  refine bf_copyT hx hb (by rw [hml]; exact hl.1.symm) hown (hts _ q205) (hts _ q115) (hts _ q114) (hts _ q18) hK hP hD hS hX0.2 1 1 rfl rfl rfl (Nat.le_of_ble_eq_true rfl) (Nat.le_of_ble_eq_true rfl) (by rw [bf_nfw]; exact Nat.le_of_ble_eq_true rfl) dX2_setKey_35 (fun H locs hP hD hS => ?_)
  have hP : va_P (dC, dI) vwCl [(h0, .inr (2, [.ref a0, .ref a1, .ref a2, .ref a3, .ref a4, .int en, wk])), (a0, .inl (cI, 256, .inl (fun j => bf_PI (18 + j)))), (a1, .inl (cI, 256, .inl g1)), (a2, .inl (cI, 256, .inl g2)), (a3, .inl (cI, 256, .inl g3)), (a4, .inl (cI, 18, .inl g4)), (kb, .inl (cB, n, .inl f))] H := hP
  have hD : va_D A [(h0, .inr (2, [.ref a0, .ref a1, .ref a2, .ref a3, .ref a4, .int en, wk])), (a0, .inl (cI, 256, .inl (fun j => bf_PI (18 + j)))), (a1, .inl (cI, 256, .inl g1)), (a2, .inl (cI, 256, .inl g2)), (a3, .inl (cI, 256, .inl g3)), (a4, .inl (cI, 18, .inl g4)), (kb, .inl (cB, n, .inl f))] := hD
  refine va_gets hx hb hX1.1 hS hown (hts _ q206) (fun _ h9 => h9) dX2_setKey_38 ?_
  refine lv_iconst (v := 0) hx hb dX2_setKey_41 (by decide) ?_
  refine lv_aload_n hx hb dX2_setKey_42 rfl (lv_at hl 0 rfl) ?_
  refine va_get (D := (dC, dI)) (ci := 2) (v := .ref a1) (C := RX2) (T := TX2) (N := 7) hx hb hts in_X2 hown hK hP 0 rfl rfl 1 (by decide) (hts _ q75) (fun _ h9 => h9) rfl dX2_setKey_43 ?_
  refine lv_iconst (v := 0) hx hb dX2_setKey_46 (by decide) ?_
  refine lv_sipush (v := 256) hx hb dX2_setKey_47 (by decide) ?_
  refine bf_copyT hx hb (by rw [hml]; exact hl.1.symm) hown (hts _ q205) (hts _ q115) (hts _ q114) (hts _ q18) hK hP hD hS hX1.2 2 1 rfl rfl rfl (Nat.le_of_ble_eq_true rfl) (Nat.le_of_ble_eq_true rfl) (by rw [bf_nfw]; exact Nat.le_of_ble_eq_true rfl) dX2_setKey_50 (fun H locs hP hD hS => ?_)
  have hP : va_P (dC, dI) vwCl [(h0, .inr (2, [.ref a0, .ref a1, .ref a2, .ref a3, .ref a4, .int en, wk])), (a0, .inl (cI, 256, .inl (fun j => bf_PI (18 + j)))), (a1, .inl (cI, 256, .inl (fun j => bf_PI (274 + j)))), (a2, .inl (cI, 256, .inl g2)), (a3, .inl (cI, 256, .inl g3)), (a4, .inl (cI, 18, .inl g4)), (kb, .inl (cB, n, .inl f))] H := hP
  have hD : va_D A [(h0, .inr (2, [.ref a0, .ref a1, .ref a2, .ref a3, .ref a4, .int en, wk])), (a0, .inl (cI, 256, .inl (fun j => bf_PI (18 + j)))), (a1, .inl (cI, 256, .inl (fun j => bf_PI (274 + j)))), (a2, .inl (cI, 256, .inl g2)), (a3, .inl (cI, 256, .inl g3)), (a4, .inl (cI, 18, .inl g4)), (kb, .inl (cB, n, .inl f))] := hD
  refine va_gets hx hb hX2.1 hS hown (hts _ q208) (fun _ h9 => h9) dX2_setKey_53 ?_
  refine lv_iconst (v := 0) hx hb dX2_setKey_56 (by decide) ?_
  refine lv_aload_n hx hb dX2_setKey_57 rfl (lv_at hl 0 rfl) ?_
  refine va_get (D := (dC, dI)) (ci := 2) (v := .ref a2) (C := RX2) (T := TX2) (N := 7) hx hb hts in_X2 hown hK hP 0 rfl rfl 2 (by decide) (hts _ q76) (fun _ h9 => h9) rfl dX2_setKey_58 ?_
  refine lv_iconst (v := 0) hx hb dX2_setKey_61 (by decide) ?_
  refine lv_sipush (v := 256) hx hb dX2_setKey_62 (by decide) ?_
  refine bf_copyT hx hb (by rw [hml]; exact hl.1.symm) hown (hts _ q205) (hts _ q115) (hts _ q114) (hts _ q18) hK hP hD hS hX2.2 3 1 rfl rfl rfl (Nat.le_of_ble_eq_true rfl) (Nat.le_of_ble_eq_true rfl) (by rw [bf_nfw]; exact Nat.le_of_ble_eq_true rfl) dX2_setKey_65 (fun H locs hP hD hS => ?_)
  have hP : va_P (dC, dI) vwCl [(h0, .inr (2, [.ref a0, .ref a1, .ref a2, .ref a3, .ref a4, .int en, wk])), (a0, .inl (cI, 256, .inl (fun j => bf_PI (18 + j)))), (a1, .inl (cI, 256, .inl (fun j => bf_PI (274 + j)))), (a2, .inl (cI, 256, .inl (fun j => bf_PI (530 + j)))), (a3, .inl (cI, 256, .inl g3)), (a4, .inl (cI, 18, .inl g4)), (kb, .inl (cB, n, .inl f))] H := hP
  have hD : va_D A [(h0, .inr (2, [.ref a0, .ref a1, .ref a2, .ref a3, .ref a4, .int en, wk])), (a0, .inl (cI, 256, .inl (fun j => bf_PI (18 + j)))), (a1, .inl (cI, 256, .inl (fun j => bf_PI (274 + j)))), (a2, .inl (cI, 256, .inl (fun j => bf_PI (530 + j)))), (a3, .inl (cI, 256, .inl g3)), (a4, .inl (cI, 18, .inl g4)), (kb, .inl (cB, n, .inl f))] := hD
  refine va_gets hx hb hX3.1 hS hown (hts _ q210) (fun _ h9 => h9) dX2_setKey_68 ?_
  refine lv_iconst (v := 0) hx hb dX2_setKey_71 (by decide) ?_
  refine lv_aload_n hx hb dX2_setKey_72 rfl (lv_at hl 0 rfl) ?_
  refine va_get (D := (dC, dI)) (ci := 2) (v := .ref a3) (C := RX2) (T := TX2) (N := 7) hx hb hts in_X2 hown hK hP 0 rfl rfl 3 (by decide) (hts _ q77) (fun _ h9 => h9) rfl dX2_setKey_73 ?_
  refine lv_iconst (v := 0) hx hb dX2_setKey_76 (by decide) ?_
  refine lv_sipush (v := 256) hx hb dX2_setKey_77 (by decide) ?_
  refine bf_copyT hx hb (by rw [hml]; exact hl.1.symm) hown (hts _ q205) (hts _ q115) (hts _ q114) (hts _ q18) hK hP hD hS hX3.2 4 1 rfl rfl rfl (Nat.le_of_ble_eq_true rfl) (Nat.le_of_ble_eq_true rfl) (by rw [bf_nfw]; exact Nat.le_of_ble_eq_true rfl) dX2_setKey_80 (fun H locs hP hD hS => ?_)
  have hP : va_P (dC, dI) vwCl [(h0, .inr (2, [.ref a0, .ref a1, .ref a2, .ref a3, .ref a4, .int en, wk])), (a0, .inl (cI, 256, .inl (fun j => bf_PI (18 + j)))), (a1, .inl (cI, 256, .inl (fun j => bf_PI (274 + j)))), (a2, .inl (cI, 256, .inl (fun j => bf_PI (530 + j)))), (a3, .inl (cI, 256, .inl (fun j => bf_PI (786 + j)))), (a4, .inl (cI, 18, .inl g4)), (kb, .inl (cB, n, .inl f))] H := hP
  have hD : va_D A [(h0, .inr (2, [.ref a0, .ref a1, .ref a2, .ref a3, .ref a4, .int en, wk])), (a0, .inl (cI, 256, .inl (fun j => bf_PI (18 + j)))), (a1, .inl (cI, 256, .inl (fun j => bf_PI (274 + j)))), (a2, .inl (cI, 256, .inl (fun j => bf_PI (530 + j)))), (a3, .inl (cI, 256, .inl (fun j => bf_PI (786 + j)))), (a4, .inl (cI, 18, .inl g4)), (kb, .inl (cB, n, .inl f))] := hD
  refine va_gets hx hb hX4.1 hS hown (hts _ q212) (fun _ h9 => h9) dX2_setKey_83 ?_
  refine lv_iconst (v := 0) hx hb dX2_setKey_86 (by decide) ?_
  refine lv_aload_n hx hb dX2_setKey_87 rfl (lv_at hl 0 rfl) ?_
  refine va_get (D := (dC, dI)) (ci := 2) (v := .ref a4) (C := RX2) (T := TX2) (N := 7) hx hb hts in_X2 hown hK hP 0 rfl rfl 4 (by decide) (hts _ q78) (fun _ h9 => h9) rfl dX2_setKey_88 ?_
  refine lv_iconst (v := 0) hx hb dX2_setKey_91 (by decide) ?_
  refine lv_bipush (v := 18) hx hb dX2_setKey_92 (by decide) ?_
  refine bf_copyT hx hb (by rw [hml]; exact hl.1.symm) hown (hts _ q205) (hts _ q115) (hts _ q114) (hts _ q18) hK hP hD hS hX4.2 5 1 rfl rfl rfl (Nat.le_of_ble_eq_true rfl) (Nat.le_of_ble_eq_true rfl) (by rw [bf_nfw]; exact Nat.le_of_ble_eq_true rfl) dX2_setKey_94 (fun H locs hP hD hS => ?_)
  have hP : va_P (dC, dI) vwCl [(h0, .inr (2, [.ref a0, .ref a1, .ref a2, .ref a3, .ref a4, .int en, wk])), (a0, .inl (cI, 256, .inl (fun j => bf_PI (18 + j)))), (a1, .inl (cI, 256, .inl (fun j => bf_PI (274 + j)))), (a2, .inl (cI, 256, .inl (fun j => bf_PI (530 + j)))), (a3, .inl (cI, 256, .inl (fun j => bf_PI (786 + j)))), (a4, .inl (cI, 18, .inl bf_PI)), (kb, .inl (cB, n, .inl f))] H := hP
  have hD : va_D A [(h0, .inr (2, [.ref a0, .ref a1, .ref a2, .ref a3, .ref a4, .int en, wk])), (a0, .inl (cI, 256, .inl (fun j => bf_PI (18 + j)))), (a1, .inl (cI, 256, .inl (fun j => bf_PI (274 + j)))), (a2, .inl (cI, 256, .inl (fun j => bf_PI (530 + j)))), (a3, .inl (cI, 256, .inl (fun j => bf_PI (786 + j)))), (a4, .inl (cI, 18, .inl bf_PI)), (kb, .inl (cB, n, .inl f))] := hD
  have hP : va_P (dC, dI) vwCl [(h0, .inr (2, [.ref a0, .ref a1, .ref a2, .ref a3, .ref a4, .int en, wk])), (a0, .inl (cI, 256, .inl (fun k => bf_PI (18 + k)))), (a1, .inl (cI, 256, .inl (fun k => bf_PI (274 + k)))), (a2, .inl (cI, 256, .inl (fun k => bf_PI (530 + k)))), (a3, .inl (cI, 256, .inl (fun k => bf_PI (786 + k)))), (a4, .inl (cI, 18, .inl bf_PI)), (kb, .inl (cB, n, .inl f))] H := hP
  have hD : va_D A [(h0, .inr (2, [.ref a0, .ref a1, .ref a2, .ref a3, .ref a4, .int en, wk])), (a0, .inl (cI, 256, .inl (fun k => bf_PI (18 + k)))), (a1, .inl (cI, 256, .inl (fun k => bf_PI (274 + k)))), (a2, .inl (cI, 256, .inl (fun k => bf_PI (530 + k)))), (a3, .inl (cI, 256, .inl (fun k => bf_PI (786 + k)))), (a4, .inl (cI, 18, .inl bf_PI)), (kb, .inl (cB, n, .inl f))] := hD
  refine lv_aload_n hx hb dX2_setKey_97 rfl (lv_at hl 1 rfl) ?_
  refine va_alen (v := nI n) hx hb hK hP 6 0 rfl rfl rfl dX2_setKey_98 ?_
  refine lv_istore_n (lv' := [(2, .int (nI n)), (0, .ref h0), (1, .ref kb)]) hx hb dX2_setKey_99 rfl hl (by decide) rfl (fun ls hl => ?_)
  refine lv_iconst (v := 0) hx hb dX2_setKey_100 (by decide) ?_
  refine lv_istore_n (lv' := [(3, .int 0), (2, .int (nI n)), (0, .ref h0), (1, .ref kb)]) hx hb dX2_setKey_101 rfl hl (by decide) rfl (fun ls hl => ?_)
  refine lv_iconst (v := 0) hx hb dX2_setKey_102 (by decide) ?_
  refine lv_istore (lv' := [(4, .int 0), (3, .int 0), (2, .int (nI n)), (0, .ref h0), (1, .ref kb)]) hx hb dX2_setKey_103 hl (by decide) rfl (fun ls hl => ?_)
  rw [← bf_T0_0 bf_PI f n] at hP hD
  have hl := lv_sub (l' := [(0, .ref h0), (1, .ref kb), (2, .int (nI n)), (3, .int 0), (4, .int 0)]) hl [3, 4, 2, 1, 0] rfl
  have hl : lv_has ls 7 [(0, .ref h0), (1, .ref kb), (2, .int (nI n)), (3, .int (nI (4 * 0 % n))), (4, .int (nI 0))] := by
    rw [show 4 * 0 % n = 0 from Nat.zero_mod n]
    exact hl
  refine bf_while 18 (fun i H locs ls => va_P (dC, dI) vwCl [(h0, .inr (2, [.ref a0, .ref a1, .ref a2, .ref a3, .ref a4, .int en, wk])), (a0, .inl (cI, 256, .inl (fun k => (bf_T0 bf_PI f n (i)) (18 + k)))), (a1, .inl (cI, 256, .inl (fun k => (bf_T0 bf_PI f n (i)) (274 + k)))), (a2, .inl (cI, 256, .inl (fun k => (bf_T0 bf_PI f n (i)) (530 + k)))), (a3, .inl (cI, 256, .inl (fun k => (bf_T0 bf_PI f n (i)) (786 + k)))), (a4, .inl (cI, 18, .inl (bf_T0 bf_PI f n (i)))), (kb, .inl (cB, n, .inl f))] H ∧ va_D A [(h0, .inr (2, [.ref a0, .ref a1, .ref a2, .ref a3, .ref a4, .int en, wk])), (a0, .inl (cI, 256, .inl (fun k => (bf_T0 bf_PI f n (i)) (18 + k)))), (a1, .inl (cI, 256, .inl (fun k => (bf_T0 bf_PI f n (i)) (274 + k)))), (a2, .inl (cI, 256, .inl (fun k => (bf_T0 bf_PI f n (i)) (530 + k)))), (a3, .inl (cI, 256, .inl (fun k => (bf_T0 bf_PI f n (i)) (786 + k)))), (a4, .inl (cI, 18, .inl (bf_T0 bf_PI f n (i)))), (kb, .inl (cB, n, .inl f))] ∧ va_S A s.heap H locs ∧ lv_has ls 7 [(0, .ref h0), (1, .ref kb), (2, .int (nI n)), (3, .int (nI (4 * i % n))), (4, .int (nI i))]) (fun _ => 0) (fun _ => 0) 0 (Nat.zero_le _) ⟨hP, hD, hS, hl⟩ (fun H locs ls hI => ?_) (fun i hi ih H locs ls hI => ?_)
  · obtain ⟨hP, hD, hS, hl⟩ := hI
    refine lv_iload hx hb dX2_setKey_105 (lv_at hl 4 rfl) ?_
    refine lv_bipush (v := 18) hx hb dX2_setKey_107 (by decide) ?_
    refine lv_icmp_ge (tgt := 173) hx hb dX2_setKey_109 (by decide) (fun _ => ?_) (fun h9 => absurd (nI_le (a := 18) (b := 18) (Nat.le_of_ble_eq_true rfl) (Nat.le_of_ble_eq_true rfl)) h9)
    refine lv_aload_n hx hb dX2_setKey_173 rfl (lv_at hl 0 rfl) ?_
    refine lv_iconst (v := 0) hx hb dX2_setKey_174 (by decide) ?_
    refine lv_iconst (v := 0) hx hb dX2_setKey_175 (by decide) ?_
    refine lv_aload_n hx hb dX2_setKey_176 rfl (lv_at hl 0 rfl) ?_
    refine va_get (D := (dC, dI)) (ci := 2) (v := .ref a4) (C := RX2) (T := TX2) (N := 7) hx hb hts in_X2 hown hK hP 0 rfl rfl 4 (by decide) (hts _ q78) (fun _ h9 => h9) rfl dX2_setKey_177 ?_
    refine bf_callv (wr := [(kb, .inl (cB, n, .inl f))]) (va_runV (As := [.int 0, .int 0, .ref a4]) (rest := []) ⟨hx, hb, hml, hown, hts⟩ (met_X2_processTable_4 l dC dI cB cI H.size h0 a0 a1 a2 a3 a4 en wk (bf_T0 bf_PI f n 18) 0 0) (cwV 3 hts (lw_V q214 q216 qs3 q16 q217) rfl rfl rfl (by decide +kernel) ⟨Nat.le_of_ble_eq_true rfl, Nat.le_of_ble_eq_true rfl⟩) (bf_preV hK hP hD [0, 1, 2, 3, 4, 5] (by decide) rfl (ci := 2) (q0 := 0) rfl rfl) rfl rfl hl.1 rfl (lv_room (Nat.le_of_ble_eq_true rfl)) dX2_setKey_180 ⟨Nat.le_of_ble_eq_true rfl, Nat.le_of_ble_eq_true rfl⟩) hP hD hS hA [0, 1, 2, 3, 4, 5] [6] rfl rfl (by decide) (by decide) (fun _ H locs hP hD hS => ?_)
    have hP : va_P (dC, dI) vwCl [(kb, .inl (cB, n, .inl f)), (h0, .inr (2, [.ref a0, .ref a1, .ref a2, .ref a3, .ref a4, .int en, wk])), (a0, .inl (cI, 256, .inl (fun k => (bf_st (bf_T0 bf_PI f n 18) 0 0 0 9).1 (18 + k)))), (a1, .inl (cI, 256, .inl (fun k => (bf_st (bf_T0 bf_PI f n 18) 0 0 0 9).1 (274 + k)))), (a2, .inl (cI, 256, .inl (fun k => (bf_st (bf_T0 bf_PI f n 18) 0 0 0 9).1 (530 + k)))), (a3, .inl (cI, 256, .inl (fun k => (bf_st (bf_T0 bf_PI f n 18) 0 0 0 9).1 (786 + k)))), (a4, .inl (cI, 18, .inl (bf_st (bf_T0 bf_PI f n 18) 0 0 0 9).1))] H := hP
    have hD : va_D A [(kb, .inl (cB, n, .inl f)), (h0, .inr (2, [.ref a0, .ref a1, .ref a2, .ref a3, .ref a4, .int en, wk])), (a0, .inl (cI, 256, .inl (fun k => (bf_st (bf_T0 bf_PI f n 18) 0 0 0 9).1 (18 + k)))), (a1, .inl (cI, 256, .inl (fun k => (bf_st (bf_T0 bf_PI f n 18) 0 0 0 9).1 (274 + k)))), (a2, .inl (cI, 256, .inl (fun k => (bf_st (bf_T0 bf_PI f n 18) 0 0 0 9).1 (530 + k)))), (a3, .inl (cI, 256, .inl (fun k => (bf_st (bf_T0 bf_PI f n 18) 0 0 0 9).1 (786 + k)))), (a4, .inl (cI, 18, .inl (bf_st (bf_T0 bf_PI f n 18) 0 0 0 9).1))] := hD
    refine lv_aload_n hx hb dX2_setKey_183 rfl (lv_at hl 0 rfl) ?_
    refine lv_aload_n hx hb dX2_setKey_184 rfl (lv_at hl 0 rfl) ?_
    refine va_get (D := (dC, dI)) (ci := 2) (v := .ref a4) (C := RX2) (T := TX2) (N := 7) hx hb hts in_X2 hown hK hP 1 rfl rfl 4 (by decide) (hts _ q78) (fun _ h9 => h9) rfl dX2_setKey_185 ?_
    refine lv_bipush (v := 16) hx hb dX2_setKey_188 (by decide) ?_
    refine bf_iald hx hb hK hP 6 1 rfl rfl dX2_setKey_190 16 rfl (Nat.le_of_ble_eq_true rfl) (Nat.le_of_ble_eq_true rfl) ?_
    refine bf_topE (y := (bf_st (bf_T0 bf_PI f n 18) 0 0 0 9).2.1) (bf_st_hi (bf_T0 bf_PI f n 18) 0 0 0 8) ?_
    refine lv_aload_n hx hb dX2_setKey_191 rfl (lv_at hl 0 rfl) ?_
    refine va_get (D := (dC, dI)) (ci := 2) (v := .ref a4) (C := RX2) (T := TX2) (N := 7) hx hb hts in_X2 hown hK hP 1 rfl rfl 4 (by decide) (hts _ q78) (fun _ h9 => h9) rfl dX2_setKey_192 ?_
    refine lv_bipush (v := 17) hx hb dX2_setKey_195 (by decide) ?_
    refine bf_iald hx hb hK hP 6 1 rfl rfl dX2_setKey_197 17 rfl (Nat.le_of_ble_eq_true rfl) (Nat.le_of_ble_eq_true rfl) ?_
    refine bf_topE (y := (bf_st (bf_T0 bf_PI f n 18) 0 0 0 9).2.2) (bf_st_lo (bf_T0 bf_PI f n 18) 0 0 0 8) ?_
    refine lv_aload_n hx hb dX2_setKey_198 rfl (lv_at hl 0 rfl) ?_
    refine va_get (D := (dC, dI)) (ci := 2) (v := .ref a0) (C := RX2) (T := TX2) (N := 7) hx hb hts in_X2 hown hK hP 1 rfl rfl 0 (by decide) (hts _ q74) (fun _ h9 => h9) rfl dX2_setKey_199 ?_
    refine bf_callv (wr := [(kb, .inl (cB, n, .inl f))]) (va_runV (As := [.int ((bf_st (bf_T0 bf_PI f n 18) 0 0 0 9).2.1), .int ((bf_st (bf_T0 bf_PI f n 18) 0 0 0 9).2.2), .ref a0]) (rest := []) ⟨hx, hb, hml, hown, hts⟩ (met_X2_processTable_0 l dC dI cB cI H.size h0 a0 a1 a2 a3 a4 en wk (bf_st (bf_T0 bf_PI f n 18) 0 0 0 9).1 (bf_st (bf_T0 bf_PI f n 18) 0 0 0 9).2.1 (bf_st (bf_T0 bf_PI f n 18) 0 0 0 9).2.2) (cwV 3 hts (lw_V q214 q216 qs3 q16 q217) rfl rfl rfl (by decide +kernel) ⟨Nat.le_of_ble_eq_true rfl, Nat.le_of_ble_eq_true rfl⟩) (bf_preV hK hP hD [1, 2, 3, 4, 5, 6] (by decide) rfl (ci := 2) (q0 := 1) rfl rfl) rfl rfl hl.1 rfl (lv_room (Nat.le_of_ble_eq_true rfl)) dX2_setKey_202 ⟨Nat.le_of_ble_eq_true rfl, Nat.le_of_ble_eq_true rfl⟩) hP hD hS hA [1, 2, 3, 4, 5, 6] [0] rfl rfl (by decide) (by decide) (fun _ H locs hP hD hS => ?_)
    have hP : va_P (dC, dI) vwCl [(kb, .inl (cB, n, .inl f)), (h0, .inr (2, [.ref a0, .ref a1, .ref a2, .ref a3, .ref a4, .int en, wk])), (a0, .inl (cI, 256, .inl (fun k => (bf_st (bf_st (bf_T0 bf_PI f n 18) 0 0 0 9).1 (bf_st (bf_T0 bf_PI f n 18) 0 0 0 9).2.1 (bf_st (bf_T0 bf_PI f n 18) 0 0 0 9).2.2 18 128).1 (18 + k)))), (a1, .inl (cI, 256, .inl (fun k => (bf_st (bf_st (bf_T0 bf_PI f n 18) 0 0 0 9).1 (bf_st (bf_T0 bf_PI f n 18) 0 0 0 9).2.1 (bf_st (bf_T0 bf_PI f n 18) 0 0 0 9).2.2 18 128).1 (274 + k)))), (a2, .inl (cI, 256, .inl (fun k => (bf_st (bf_st (bf_T0 bf_PI f n 18) 0 0 0 9).1 (bf_st (bf_T0 bf_PI f n 18) 0 0 0 9).2.1 (bf_st (bf_T0 bf_PI f n 18) 0 0 0 9).2.2 18 128).1 (530 + k)))), (a3, .inl (cI, 256, .inl (fun k => (bf_st (bf_st (bf_T0 bf_PI f n 18) 0 0 0 9).1 (bf_st (bf_T0 bf_PI f n 18) 0 0 0 9).2.1 (bf_st (bf_T0 bf_PI f n 18) 0 0 0 9).2.2 18 128).1 (786 + k)))), (a4, .inl (cI, 18, .inl (bf_st (bf_st (bf_T0 bf_PI f n 18) 0 0 0 9).1 (bf_st (bf_T0 bf_PI f n 18) 0 0 0 9).2.1 (bf_st (bf_T0 bf_PI f n 18) 0 0 0 9).2.2 18 128).1))] H := hP
    have hD : va_D A [(kb, .inl (cB, n, .inl f)), (h0, .inr (2, [.ref a0, .ref a1, .ref a2, .ref a3, .ref a4, .int en, wk])), (a0, .inl (cI, 256, .inl (fun k => (bf_st (bf_st (bf_T0 bf_PI f n 18) 0 0 0 9).1 (bf_st (bf_T0 bf_PI f n 18) 0 0 0 9).2.1 (bf_st (bf_T0 bf_PI f n 18) 0 0 0 9).2.2 18 128).1 (18 + k)))), (a1, .inl (cI, 256, .inl (fun k => (bf_st (bf_st (bf_T0 bf_PI f n 18) 0 0 0 9).1 (bf_st (bf_T0 bf_PI f n 18) 0 0 0 9).2.1 (bf_st (bf_T0 bf_PI f n 18) 0 0 0 9).2.2 18 128).1 (274 + k)))), (a2, .inl (cI, 256, .inl (fun k => (bf_st (bf_st (bf_T0 bf_PI f n 18) 0 0 0 9).1 (bf_st (bf_T0 bf_PI f n 18) 0 0 0 9).2.1 (bf_st (bf_T0 bf_PI f n 18) 0 0 0 9).2.2 18 128).1 (530 + k)))), (a3, .inl (cI, 256, .inl (fun k => (bf_st (bf_st (bf_T0 bf_PI f n 18) 0 0 0 9).1 (bf_st (bf_T0 bf_PI f n 18) 0 0 0 9).2.1 (bf_st (bf_T0 bf_PI f n 18) 0 0 0 9).2.2 18 128).1 (786 + k)))), (a4, .inl (cI, 18, .inl (bf_st (bf_st (bf_T0 bf_PI f n 18) 0 0 0 9).1 (bf_st (bf_T0 bf_PI f n 18) 0 0 0 9).2.1 (bf_st (bf_T0 bf_PI f n 18) 0 0 0 9).2.2 18 128).1))] := hD
    rw [show bf_st (bf_st (bf_T0 bf_PI f n 18) 0 0 0 9).1 (bf_st (bf_T0 bf_PI f n 18) 0 0 0 9).2.1 (bf_st (bf_T0 bf_PI f n 18) 0 0 0 9).2.2 18 128 = bf_st (bf_T0 bf_PI f n 18) 0 0 0 137 from (bf_st_add (bf_T0 bf_PI f n 18) 0 0 0 9 128).symm] at hP hD
    refine lv_aload_n hx hb dX2_setKey_205 rfl (lv_at hl 0 rfl) ?_
    refine lv_aload_n hx hb dX2_setKey_206 rfl (lv_at hl 0 rfl) ?_
    refine va_get (D := (dC, dI)) (ci := 2) (v := .ref a0) (C := RX2) (T := TX2) (N := 7) hx hb hts in_X2 hown hK hP 1 rfl rfl 0 (by decide) (hts _ q74) (fun _ h9 => h9) rfl dX2_setKey_207 ?_
    refine lv_sipush (v := 254) hx hb dX2_setKey_210 (by decide) ?_
    refine bf_iald hx hb hK hP 2 1 rfl rfl dX2_setKey_213 254 rfl (Nat.le_of_ble_eq_true rfl) (Nat.le_of_ble_eq_true rfl) ?_
    refine bf_topE (y := (bf_st (bf_T0 bf_PI f n 18) 0 0 0 137).2.1) (bf_st_hi (bf_T0 bf_PI f n 18) 0 0 0 136) ?_
    refine lv_aload_n hx hb dX2_setKey_214 rfl (lv_at hl 0 rfl) ?_
    refine va_get (D := (dC, dI)) (ci := 2) (v := .ref a0) (C := RX2) (T := TX2) (N := 7) hx hb hts in_X2 hown hK hP 1 rfl rfl 0 (by decide) (hts _ q74) (fun _ h9 => h9) rfl dX2_setKey_215 ?_
    refine lv_sipush (v := 255) hx hb dX2_setKey_218 (by decide) ?_
    refine bf_iald hx hb hK hP 2 1 rfl rfl dX2_setKey_221 255 rfl (Nat.le_of_ble_eq_true rfl) (Nat.le_of_ble_eq_true rfl) ?_
    refine bf_topE (y := (bf_st (bf_T0 bf_PI f n 18) 0 0 0 137).2.2) (bf_st_lo (bf_T0 bf_PI f n 18) 0 0 0 136) ?_
    refine lv_aload_n hx hb dX2_setKey_222 rfl (lv_at hl 0 rfl) ?_
    refine va_get (D := (dC, dI)) (ci := 2) (v := .ref a1) (C := RX2) (T := TX2) (N := 7) hx hb hts in_X2 hown hK hP 1 rfl rfl 1 (by decide) (hts _ q75) (fun _ h9 => h9) rfl dX2_setKey_223 ?_
    refine bf_callv (wr := [(kb, .inl (cB, n, .inl f))]) (va_runV (As := [.int ((bf_st (bf_T0 bf_PI f n 18) 0 0 0 137).2.1), .int ((bf_st (bf_T0 bf_PI f n 18) 0 0 0 137).2.2), .ref a1]) (rest := []) ⟨hx, hb, hml, hown, hts⟩ (met_X2_processTable_1 l dC dI cB cI H.size h0 a0 a1 a2 a3 a4 en wk (bf_st (bf_T0 bf_PI f n 18) 0 0 0 137).1 (bf_st (bf_T0 bf_PI f n 18) 0 0 0 137).2.1 (bf_st (bf_T0 bf_PI f n 18) 0 0 0 137).2.2) (cwV 3 hts (lw_V q214 q216 qs3 q16 q217) rfl rfl rfl (by decide +kernel) ⟨Nat.le_of_ble_eq_true rfl, Nat.le_of_ble_eq_true rfl⟩) (bf_preV hK hP hD [1, 2, 3, 4, 5, 6] (by decide) rfl (ci := 2) (q0 := 1) rfl rfl) rfl rfl hl.1 rfl (lv_room (Nat.le_of_ble_eq_true rfl)) dX2_setKey_226 ⟨Nat.le_of_ble_eq_true rfl, Nat.le_of_ble_eq_true rfl⟩) hP hD hS hA [1, 2, 3, 4, 5, 6] [0] rfl rfl (by decide) (by decide) (fun _ H locs hP hD hS => ?_)
    have hP : va_P (dC, dI) vwCl [(kb, .inl (cB, n, .inl f)), (h0, .inr (2, [.ref a0, .ref a1, .ref a2, .ref a3, .ref a4, .int en, wk])), (a0, .inl (cI, 256, .inl (fun k => (bf_st (bf_st (bf_T0 bf_PI f n 18) 0 0 0 137).1 (bf_st (bf_T0 bf_PI f n 18) 0 0 0 137).2.1 (bf_st (bf_T0 bf_PI f n 18) 0 0 0 137).2.2 274 128).1 (18 + k)))), (a1, .inl (cI, 256, .inl (fun k => (bf_st (bf_st (bf_T0 bf_PI f n 18) 0 0 0 137).1 (bf_st (bf_T0 bf_PI f n 18) 0 0 0 137).2.1 (bf_st (bf_T0 bf_PI f n 18) 0 0 0 137).2.2 274 128).1 (274 + k)))), (a2, .inl (cI, 256, .inl (fun k => (bf_st (bf_st (bf_T0 bf_PI f n 18) 0 0 0 137).1 (bf_st (bf_T0 bf_PI f n 18) 0 0 0 137).2.1 (bf_st (bf_T0 bf_PI f n 18) 0 0 0 137).2.2 274 128).1 (530 + k)))), (a3, .inl (cI, 256, .inl (fun k => (bf_st (bf_st (bf_T0 bf_PI f n 18) 0 0 0 137).1 (bf_st (bf_T0 bf_PI f n 18) 0 0 0 137).2.1 (bf_st (bf_T0 bf_PI f n 18) 0 0 0 137).2.2 274 128).1 (786 + k)))), (a4, .inl (cI, 18, .inl (bf_st (bf_st (bf_T0 bf_PI f n 18) 0 0 0 137).1 (bf_st (bf_T0 bf_PI f n 18) 0 0 0 137).2.1 (bf_st (bf_T0 bf_PI f n 18) 0 0 0 137).2.2 274 128).1))] H := hP
    have hD : va_D A [(kb, .inl (cB, n, .inl f)), (h0, .inr (2, [.ref a0, .ref a1, .ref a2, .ref a3, .ref a4, .int en, wk])), (a0, .inl (cI, 256, .inl (fun k => (bf_st (bf_st (bf_T0 bf_PI f n 18) 0 0 0 137).1 (bf_st (bf_T0 bf_PI f n 18) 0 0 0 137).2.1 (bf_st (bf_T0 bf_PI f n 18) 0 0 0 137).2.2 274 128).1 (18 + k)))), (a1, .inl (cI, 256, .inl (fun k => (bf_st (bf_st (bf_T0 bf_PI f n 18) 0 0 0 137).1 (bf_st (bf_T0 bf_PI f n 18) 0 0 0 137).2.1 (bf_st (bf_T0 bf_PI f n 18) 0 0 0 137).2.2 274 128).1 (274 + k)))), (a2, .inl (cI, 256, .inl (fun k => (bf_st (bf_st (bf_T0 bf_PI f n 18) 0 0 0 137).1 (bf_st (bf_T0 bf_PI f n 18) 0 0 0 137).2.1 (bf_st (bf_T0 bf_PI f n 18) 0 0 0 137).2.2 274 128).1 (530 + k)))), (a3, .inl (cI, 256, .inl (fun k => (bf_st (bf_st (bf_T0 bf_PI f n 18) 0 0 0 137).1 (bf_st (bf_T0 bf_PI f n 18) 0 0 0 137).2.1 (bf_st (bf_T0 bf_PI f n 18) 0 0 0 137).2.2 274 128).1 (786 + k)))), (a4, .inl (cI, 18, .inl (bf_st (bf_st (bf_T0 bf_PI f n 18) 0 0 0 137).1 (bf_st (bf_T0 bf_PI f n 18) 0 0 0 137).2.1 (bf_st (bf_T0 bf_PI f n 18) 0 0 0 137).2.2 274 128).1))] := hD
    rw [show bf_st (bf_st (bf_T0 bf_PI f n 18) 0 0 0 137).1 (bf_st (bf_T0 bf_PI f n 18) 0 0 0 137).2.1 (bf_st (bf_T0 bf_PI f n 18) 0 0 0 137).2.2 274 128 = bf_st (bf_T0 bf_PI f n 18) 0 0 0 265 from (bf_st_add (bf_T0 bf_PI f n 18) 0 0 0 137 128).symm] at hP hD
    refine lv_aload_n hx hb dX2_setKey_229 rfl (lv_at hl 0 rfl) ?_
    refine lv_aload_n hx hb dX2_setKey_230 rfl (lv_at hl 0 rfl) ?_
    refine va_get (D := (dC, dI)) (ci := 2) (v := .ref a1) (C := RX2) (T := TX2) (N := 7) hx hb hts in_X2 hown hK hP 1 rfl rfl 1 (by decide) (hts _ q75) (fun _ h9 => h9) rfl dX2_setKey_231 ?_
    refine lv_sipush (v := 254) hx hb dX2_setKey_234 (by decide) ?_
    refine bf_iald hx hb hK hP 3 1 rfl rfl dX2_setKey_237 254 rfl (Nat.le_of_ble_eq_true rfl) (Nat.le_of_ble_eq_true rfl) ?_
    refine bf_topE (y := (bf_st (bf_T0 bf_PI f n 18) 0 0 0 265).2.1) (bf_st_hi (bf_T0 bf_PI f n 18) 0 0 0 264) ?_
    refine lv_aload_n hx hb dX2_setKey_238 rfl (lv_at hl 0 rfl) ?_
    refine va_get (D := (dC, dI)) (ci := 2) (v := .ref a1) (C := RX2) (T := TX2) (N := 7) hx hb hts in_X2 hown hK hP 1 rfl rfl 1 (by decide) (hts _ q75) (fun _ h9 => h9) rfl dX2_setKey_239 ?_
    refine lv_sipush (v := 255) hx hb dX2_setKey_242 (by decide) ?_
    refine bf_iald hx hb hK hP 3 1 rfl rfl dX2_setKey_245 255 rfl (Nat.le_of_ble_eq_true rfl) (Nat.le_of_ble_eq_true rfl) ?_
    refine bf_topE (y := (bf_st (bf_T0 bf_PI f n 18) 0 0 0 265).2.2) (bf_st_lo (bf_T0 bf_PI f n 18) 0 0 0 264) ?_
    refine lv_aload_n hx hb dX2_setKey_246 rfl (lv_at hl 0 rfl) ?_
    refine va_get (D := (dC, dI)) (ci := 2) (v := .ref a2) (C := RX2) (T := TX2) (N := 7) hx hb hts in_X2 hown hK hP 1 rfl rfl 2 (by decide) (hts _ q76) (fun _ h9 => h9) rfl dX2_setKey_247 ?_
    refine bf_callv (wr := [(kb, .inl (cB, n, .inl f))]) (va_runV (As := [.int ((bf_st (bf_T0 bf_PI f n 18) 0 0 0 265).2.1), .int ((bf_st (bf_T0 bf_PI f n 18) 0 0 0 265).2.2), .ref a2]) (rest := []) ⟨hx, hb, hml, hown, hts⟩ (met_X2_processTable_2 l dC dI cB cI H.size h0 a0 a1 a2 a3 a4 en wk (bf_st (bf_T0 bf_PI f n 18) 0 0 0 265).1 (bf_st (bf_T0 bf_PI f n 18) 0 0 0 265).2.1 (bf_st (bf_T0 bf_PI f n 18) 0 0 0 265).2.2) (cwV 3 hts (lw_V q214 q216 qs3 q16 q217) rfl rfl rfl (by decide +kernel) ⟨Nat.le_of_ble_eq_true rfl, Nat.le_of_ble_eq_true rfl⟩) (bf_preV hK hP hD [1, 2, 3, 4, 5, 6] (by decide) rfl (ci := 2) (q0 := 1) rfl rfl) rfl rfl hl.1 rfl (lv_room (Nat.le_of_ble_eq_true rfl)) dX2_setKey_250 ⟨Nat.le_of_ble_eq_true rfl, Nat.le_of_ble_eq_true rfl⟩) hP hD hS hA [1, 2, 3, 4, 5, 6] [0] rfl rfl (by decide) (by decide) (fun _ H locs hP hD hS => ?_)
    have hP : va_P (dC, dI) vwCl [(kb, .inl (cB, n, .inl f)), (h0, .inr (2, [.ref a0, .ref a1, .ref a2, .ref a3, .ref a4, .int en, wk])), (a0, .inl (cI, 256, .inl (fun k => (bf_st (bf_st (bf_T0 bf_PI f n 18) 0 0 0 265).1 (bf_st (bf_T0 bf_PI f n 18) 0 0 0 265).2.1 (bf_st (bf_T0 bf_PI f n 18) 0 0 0 265).2.2 530 128).1 (18 + k)))), (a1, .inl (cI, 256, .inl (fun k => (bf_st (bf_st (bf_T0 bf_PI f n 18) 0 0 0 265).1 (bf_st (bf_T0 bf_PI f n 18) 0 0 0 265).2.1 (bf_st (bf_T0 bf_PI f n 18) 0 0 0 265).2.2 530 128).1 (274 + k)))), (a2, .inl (cI, 256, .inl (fun k => (bf_st (bf_st (bf_T0 bf_PI f n 18) 0 0 0 265).1 (bf_st (bf_T0 bf_PI f n 18) 0 0 0 265).2.1 (bf_st (bf_T0 bf_PI f n 18) 0 0 0 265).2.2 530 128).1 (530 + k)))), (a3, .inl (cI, 256, .inl (fun k => (bf_st (bf_st (bf_T0 bf_PI f n 18) 0 0 0 265).1 (bf_st (bf_T0 bf_PI f n 18) 0 0 0 265).2.1 (bf_st (bf_T0 bf_PI f n 18) 0 0 0 265).2.2 530 128).1 (786 + k)))), (a4, .inl (cI, 18, .inl (bf_st (bf_st (bf_T0 bf_PI f n 18) 0 0 0 265).1 (bf_st (bf_T0 bf_PI f n 18) 0 0 0 265).2.1 (bf_st (bf_T0 bf_PI f n 18) 0 0 0 265).2.2 530 128).1))] H := hP
    have hD : va_D A [(kb, .inl (cB, n, .inl f)), (h0, .inr (2, [.ref a0, .ref a1, .ref a2, .ref a3, .ref a4, .int en, wk])), (a0, .inl (cI, 256, .inl (fun k => (bf_st (bf_st (bf_T0 bf_PI f n 18) 0 0 0 265).1 (bf_st (bf_T0 bf_PI f n 18) 0 0 0 265).2.1 (bf_st (bf_T0 bf_PI f n 18) 0 0 0 265).2.2 530 128).1 (18 + k)))), (a1, .inl (cI, 256, .inl (fun k => (bf_st (bf_st (bf_T0 bf_PI f n 18) 0 0 0 265).1 (bf_st (bf_T0 bf_PI f n 18) 0 0 0 265).2.1 (bf_st (bf_T0 bf_PI f n 18) 0 0 0 265).2.2 530 128).1 (274 + k)))), (a2, .inl (cI, 256, .inl (fun k => (bf_st (bf_st (bf_T0 bf_PI f n 18) 0 0 0 265).1 (bf_st (bf_T0 bf_PI f n 18) 0 0 0 265).2.1 (bf_st (bf_T0 bf_PI f n 18) 0 0 0 265).2.2 530 128).1 (530 + k)))), (a3, .inl (cI, 256, .inl (fun k => (bf_st (bf_st (bf_T0 bf_PI f n 18) 0 0 0 265).1 (bf_st (bf_T0 bf_PI f n 18) 0 0 0 265).2.1 (bf_st (bf_T0 bf_PI f n 18) 0 0 0 265).2.2 530 128).1 (786 + k)))), (a4, .inl (cI, 18, .inl (bf_st (bf_st (bf_T0 bf_PI f n 18) 0 0 0 265).1 (bf_st (bf_T0 bf_PI f n 18) 0 0 0 265).2.1 (bf_st (bf_T0 bf_PI f n 18) 0 0 0 265).2.2 530 128).1))] := hD
    rw [show bf_st (bf_st (bf_T0 bf_PI f n 18) 0 0 0 265).1 (bf_st (bf_T0 bf_PI f n 18) 0 0 0 265).2.1 (bf_st (bf_T0 bf_PI f n 18) 0 0 0 265).2.2 530 128 = bf_st (bf_T0 bf_PI f n 18) 0 0 0 393 from (bf_st_add (bf_T0 bf_PI f n 18) 0 0 0 265 128).symm] at hP hD
    refine lv_aload_n hx hb dX2_setKey_253 rfl (lv_at hl 0 rfl) ?_
    refine lv_aload_n hx hb dX2_setKey_254 rfl (lv_at hl 0 rfl) ?_
    refine va_get (D := (dC, dI)) (ci := 2) (v := .ref a2) (C := RX2) (T := TX2) (N := 7) hx hb hts in_X2 hown hK hP 1 rfl rfl 2 (by decide) (hts _ q76) (fun _ h9 => h9) rfl dX2_setKey_255 ?_
    refine lv_sipush (v := 254) hx hb dX2_setKey_258 (by decide) ?_
    refine bf_iald hx hb hK hP 4 1 rfl rfl dX2_setKey_261 254 rfl (Nat.le_of_ble_eq_true rfl) (Nat.le_of_ble_eq_true rfl) ?_
    refine bf_topE (y := (bf_st (bf_T0 bf_PI f n 18) 0 0 0 393).2.1) (bf_st_hi (bf_T0 bf_PI f n 18) 0 0 0 392) ?_
    refine lv_aload_n hx hb dX2_setKey_262 rfl (lv_at hl 0 rfl) ?_
    refine va_get (D := (dC, dI)) (ci := 2) (v := .ref a2) (C := RX2) (T := TX2) (N := 7) hx hb hts in_X2 hown hK hP 1 rfl rfl 2 (by decide) (hts _ q76) (fun _ h9 => h9) rfl dX2_setKey_263 ?_
    refine lv_sipush (v := 255) hx hb dX2_setKey_266 (by decide) ?_
    refine bf_iald hx hb hK hP 4 1 rfl rfl dX2_setKey_269 255 rfl (Nat.le_of_ble_eq_true rfl) (Nat.le_of_ble_eq_true rfl) ?_
    refine bf_topE (y := (bf_st (bf_T0 bf_PI f n 18) 0 0 0 393).2.2) (bf_st_lo (bf_T0 bf_PI f n 18) 0 0 0 392) ?_
    refine lv_aload_n hx hb dX2_setKey_270 rfl (lv_at hl 0 rfl) ?_
    refine va_get (D := (dC, dI)) (ci := 2) (v := .ref a3) (C := RX2) (T := TX2) (N := 7) hx hb hts in_X2 hown hK hP 1 rfl rfl 3 (by decide) (hts _ q77) (fun _ h9 => h9) rfl dX2_setKey_271 ?_
    refine bf_callv (wr := [(kb, .inl (cB, n, .inl f))]) (va_runV (As := [.int ((bf_st (bf_T0 bf_PI f n 18) 0 0 0 393).2.1), .int ((bf_st (bf_T0 bf_PI f n 18) 0 0 0 393).2.2), .ref a3]) (rest := []) ⟨hx, hb, hml, hown, hts⟩ (met_X2_processTable_3 l dC dI cB cI H.size h0 a0 a1 a2 a3 a4 en wk (bf_st (bf_T0 bf_PI f n 18) 0 0 0 393).1 (bf_st (bf_T0 bf_PI f n 18) 0 0 0 393).2.1 (bf_st (bf_T0 bf_PI f n 18) 0 0 0 393).2.2) (cwV 3 hts (lw_V q214 q216 qs3 q16 q217) rfl rfl rfl (by decide +kernel) ⟨Nat.le_of_ble_eq_true rfl, Nat.le_of_ble_eq_true rfl⟩) (bf_preV hK hP hD [1, 2, 3, 4, 5, 6] (by decide) rfl (ci := 2) (q0 := 1) rfl rfl) rfl rfl hl.1 rfl (lv_room (Nat.le_of_ble_eq_true rfl)) dX2_setKey_274 ⟨Nat.le_of_ble_eq_true rfl, Nat.le_of_ble_eq_true rfl⟩) hP hD hS hA [1, 2, 3, 4, 5, 6] [0] rfl rfl (by decide) (by decide) (fun _ H locs hP hD hS => ?_)
    have hP : va_P (dC, dI) vwCl [(kb, .inl (cB, n, .inl f)), (h0, .inr (2, [.ref a0, .ref a1, .ref a2, .ref a3, .ref a4, .int en, wk])), (a0, .inl (cI, 256, .inl (fun k => (bf_st (bf_st (bf_T0 bf_PI f n 18) 0 0 0 393).1 (bf_st (bf_T0 bf_PI f n 18) 0 0 0 393).2.1 (bf_st (bf_T0 bf_PI f n 18) 0 0 0 393).2.2 786 128).1 (18 + k)))), (a1, .inl (cI, 256, .inl (fun k => (bf_st (bf_st (bf_T0 bf_PI f n 18) 0 0 0 393).1 (bf_st (bf_T0 bf_PI f n 18) 0 0 0 393).2.1 (bf_st (bf_T0 bf_PI f n 18) 0 0 0 393).2.2 786 128).1 (274 + k)))), (a2, .inl (cI, 256, .inl (fun k => (bf_st (bf_st (bf_T0 bf_PI f n 18) 0 0 0 393).1 (bf_st (bf_T0 bf_PI f n 18) 0 0 0 393).2.1 (bf_st (bf_T0 bf_PI f n 18) 0 0 0 393).2.2 786 128).1 (530 + k)))), (a3, .inl (cI, 256, .inl (fun k => (bf_st (bf_st (bf_T0 bf_PI f n 18) 0 0 0 393).1 (bf_st (bf_T0 bf_PI f n 18) 0 0 0 393).2.1 (bf_st (bf_T0 bf_PI f n 18) 0 0 0 393).2.2 786 128).1 (786 + k)))), (a4, .inl (cI, 18, .inl (bf_st (bf_st (bf_T0 bf_PI f n 18) 0 0 0 393).1 (bf_st (bf_T0 bf_PI f n 18) 0 0 0 393).2.1 (bf_st (bf_T0 bf_PI f n 18) 0 0 0 393).2.2 786 128).1))] H := hP
    have hD : va_D A [(kb, .inl (cB, n, .inl f)), (h0, .inr (2, [.ref a0, .ref a1, .ref a2, .ref a3, .ref a4, .int en, wk])), (a0, .inl (cI, 256, .inl (fun k => (bf_st (bf_st (bf_T0 bf_PI f n 18) 0 0 0 393).1 (bf_st (bf_T0 bf_PI f n 18) 0 0 0 393).2.1 (bf_st (bf_T0 bf_PI f n 18) 0 0 0 393).2.2 786 128).1 (18 + k)))), (a1, .inl (cI, 256, .inl (fun k => (bf_st (bf_st (bf_T0 bf_PI f n 18) 0 0 0 393).1 (bf_st (bf_T0 bf_PI f n 18) 0 0 0 393).2.1 (bf_st (bf_T0 bf_PI f n 18) 0 0 0 393).2.2 786 128).1 (274 + k)))), (a2, .inl (cI, 256, .inl (fun k => (bf_st (bf_st (bf_T0 bf_PI f n 18) 0 0 0 393).1 (bf_st (bf_T0 bf_PI f n 18) 0 0 0 393).2.1 (bf_st (bf_T0 bf_PI f n 18) 0 0 0 393).2.2 786 128).1 (530 + k)))), (a3, .inl (cI, 256, .inl (fun k => (bf_st (bf_st (bf_T0 bf_PI f n 18) 0 0 0 393).1 (bf_st (bf_T0 bf_PI f n 18) 0 0 0 393).2.1 (bf_st (bf_T0 bf_PI f n 18) 0 0 0 393).2.2 786 128).1 (786 + k)))), (a4, .inl (cI, 18, .inl (bf_st (bf_st (bf_T0 bf_PI f n 18) 0 0 0 393).1 (bf_st (bf_T0 bf_PI f n 18) 0 0 0 393).2.1 (bf_st (bf_T0 bf_PI f n 18) 0 0 0 393).2.2 786 128).1))] := hD
    rw [show bf_st (bf_st (bf_T0 bf_PI f n 18) 0 0 0 393).1 (bf_st (bf_T0 bf_PI f n 18) 0 0 0 393).2.1 (bf_st (bf_T0 bf_PI f n 18) 0 0 0 393).2.2 786 128 = bf_st (bf_T0 bf_PI f n 18) 0 0 0 521 from (bf_st_add (bf_T0 bf_PI f n 18) 0 0 0 393 128).symm] at hP hD
    have hP := hP.sub (ws' := [(h0, .inr (2, [.ref a0, .ref a1, .ref a2, .ref a3, .ref a4, .int en, wk])), (a0, .inl (cI, 256, .inl (fun k => (bf_sch bf_PI f n) (18 + k)))), (a1, .inl (cI, 256, .inl (fun k => (bf_sch bf_PI f n) (274 + k)))), (a2, .inl (cI, 256, .inl (fun k => (bf_sch bf_PI f n) (530 + k)))), (a3, .inl (cI, 256, .inl (fun k => (bf_sch bf_PI f n) (786 + k)))), (a4, .inl (cI, 18, .inl (bf_sch bf_PI f n))), (kb, .inl (cB, n, .inl f))]) [1, 2, 3, 4, 5, 6, 0] rfl
    have hD := hD.sub (ws' := [(h0, .inr (2, [.ref a0, .ref a1, .ref a2, .ref a3, .ref a4, .int en, wk])), (a0, .inl (cI, 256, .inl (fun k => (bf_sch bf_PI f n) (18 + k)))), (a1, .inl (cI, 256, .inl (fun k => (bf_sch bf_PI f n) (274 + k)))), (a2, .inl (cI, 256, .inl (fun k => (bf_sch bf_PI f n) (530 + k)))), (a3, .inl (cI, 256, .inl (fun k => (bf_sch bf_PI f n) (786 + k)))), (a4, .inl (cI, 18, .inl (bf_sch bf_PI f n))), (kb, .inl (cB, n, .inl f))]) [1, 2, 3, 4, 5, 6, 0] (by decide) rfl
    exact W.vret hx hb hr (fun t ht hW => ⟨⟨(), rfl, trivial, by rw [ht]; exact hP, hD⟩, hS.F ht⟩) hS.2.2 dX2_setKey_277
  · obtain ⟨hP, hD, hS, hl⟩ := hI
    refine lv_iload hx hb dX2_setKey_105 (lv_at hl 4 rfl) ?_
    refine lv_bipush (v := 18) hx hb dX2_setKey_107 (by decide) ?_
    refine lv_icmp_ge (tgt := 173) hx hb dX2_setKey_109 (by decide) (fun h9 => absurd h9 (nI_ge (a := i) (b := 18) hi (Nat.le_of_ble_eq_true rfl))) (fun _ => ?_)
    refine lv_iconst (v := 0) hx hb dX2_setKey_112 (by decide) ?_
    refine lv_istore (lv' := [(5, .int 0), (0, .ref h0), (1, .ref kb), (2, .int (nI n)), (3, .int (nI (4 * i % n))), (4, .int (nI i))]) hx hb dX2_setKey_113 hl (by decide) rfl (fun ls hl => ?_)
    refine lv_iconst (v := 0) hx hb dX2_setKey_115 (by decide) ?_
    refine lv_istore (lv' := [(6, .int 0), (5, .int 0), (0, .ref h0), (1, .ref kb), (2, .int (nI n)), (3, .int (nI (4 * i % n))), (4, .int (nI i))]) hx hb dX2_setKey_116 hl (by decide) rfl (fun ls hl => ?_)
    have hl := lv_sub (l' := [(0, .ref h0), (1, .ref kb), (2, .int (nI n)), (3, .int (nI (4 * i % n))), (4, .int (nI i)), (5, .int 0), (6, .int 0)]) hl [2, 3, 4, 5, 6, 1, 0] rfl
    refine bf_while 4 (fun j H locs ls => va_P (dC, dI) vwCl [(h0, .inr (2, [.ref a0, .ref a1, .ref a2, .ref a3, .ref a4, .int en, wk])), (a0, .inl (cI, 256, .inl (fun k => (bf_T0 bf_PI f n (i)) (18 + k)))), (a1, .inl (cI, 256, .inl (fun k => (bf_T0 bf_PI f n (i)) (274 + k)))), (a2, .inl (cI, 256, .inl (fun k => (bf_T0 bf_PI f n (i)) (530 + k)))), (a3, .inl (cI, 256, .inl (fun k => (bf_T0 bf_PI f n (i)) (786 + k)))), (a4, .inl (cI, 18, .inl (bf_T0 bf_PI f n (i)))), (kb, .inl (cB, n, .inl f))] H ∧ va_D A [(h0, .inr (2, [.ref a0, .ref a1, .ref a2, .ref a3, .ref a4, .int en, wk])), (a0, .inl (cI, 256, .inl (fun k => (bf_T0 bf_PI f n (i)) (18 + k)))), (a1, .inl (cI, 256, .inl (fun k => (bf_T0 bf_PI f n (i)) (274 + k)))), (a2, .inl (cI, 256, .inl (fun k => (bf_T0 bf_PI f n (i)) (530 + k)))), (a3, .inl (cI, 256, .inl (fun k => (bf_T0 bf_PI f n (i)) (786 + k)))), (a4, .inl (cI, 18, .inl (bf_T0 bf_PI f n (i)))), (kb, .inl (cB, n, .inl f))] ∧ va_S A s.heap H locs ∧ lv_has ls 7 [(0, .ref h0), (1, .ref kb), (2, .int (nI n)), (3, .int (nI ((4 * i + j) % n))), (4, .int (nI i)), (5, .int (bf_kw f n i (j))), (6, .int (nI (j)))]) (fun _ => 0) (fun _ => 0) 0 (Nat.zero_le _) ⟨hP, hD, hS, hl⟩ (fun H locs ls hI => ?_) (fun j hj jh H locs ls hI => ?_)
    · obtain ⟨hP, hD, hS, hl⟩ := hI
      refine lv_iload hx hb dX2_setKey_118 (lv_at hl 6 rfl) ?_
      refine lv_iconst (v := 4) hx hb dX2_setKey_120 (by decide) ?_
      refine lv_icmp_ge (tgt := 155) hx hb dX2_setKey_121 (by decide) (fun _ => ?_) (fun h9 => absurd (nI_le (a := 4) (b := 4) (Nat.le_of_ble_eq_true rfl) (Nat.le_of_ble_eq_true rfl)) h9)
      refine lv_aload_n hx hb dX2_setKey_155 rfl (lv_at hl 0 rfl) ?_
      refine va_get (D := (dC, dI)) (ci := 2) (v := .ref a4) (C := RX2) (T := TX2) (N := 7) hx hb hts in_X2 hown hK hP 0 rfl rfl 4 (by decide) (hts _ q78) (fun _ h9 => h9) rfl dX2_setKey_156 ?_
      refine lv_iload hx hb dX2_setKey_159 (lv_at hl 4 rfl) ?_
      refine lv_dup2_11 hx hb dX2_setKey_161 rfl rfl ?_
      refine bf_iald hx hb hK hP 5 1 rfl rfl dX2_setKey_162 i rfl hi (Nat.le_of_ble_eq_true rfl) ?_
      refine lv_iload hx hb dX2_setKey_163 (lv_at hl 5 rfl) ?_
      refine lv_ixor hx hb dX2_setKey_165 ?_
      refine bf_iast hx hb hK hP hD hS 5 1 rfl rfl dX2_setKey_166 i rfl hi (Nat.le_of_ble_eq_true rfl) (fun H locs hP hD hS => ?_)
      have hP : va_P (dC, dI) vwCl [(h0, .inr (2, [.ref a0, .ref a1, .ref a2, .ref a3, .ref a4, .int en, wk])), (a0, .inl (cI, 256, .inl (fun k => (bf_T0 bf_PI f n (i)) (18 + k)))), (a1, .inl (cI, 256, .inl (fun k => (bf_T0 bf_PI f n (i)) (274 + k)))), (a2, .inl (cI, 256, .inl (fun k => (bf_T0 bf_PI f n (i)) (530 + k)))), (a3, .inl (cI, 256, .inl (fun k => (bf_T0 bf_PI f n (i)) (786 + k)))), (a4, .inl (cI, 18, .inl (upd (bf_T0 bf_PI f n (i)) i (((bf_T0 bf_PI f n (i)) i) ^^^ (bf_kw f n i (4)))))), (kb, .inl (cB, n, .inl f))] H := hP
      have hD : va_D A [(h0, .inr (2, [.ref a0, .ref a1, .ref a2, .ref a3, .ref a4, .int en, wk])), (a0, .inl (cI, 256, .inl (fun k => (bf_T0 bf_PI f n (i)) (18 + k)))), (a1, .inl (cI, 256, .inl (fun k => (bf_T0 bf_PI f n (i)) (274 + k)))), (a2, .inl (cI, 256, .inl (fun k => (bf_T0 bf_PI f n (i)) (530 + k)))), (a3, .inl (cI, 256, .inl (fun k => (bf_T0 bf_PI f n (i)) (786 + k)))), (a4, .inl (cI, 18, .inl (upd (bf_T0 bf_PI f n (i)) i (((bf_T0 bf_PI f n (i)) i) ^^^ (bf_kw f n i (4)))))), (kb, .inl (cB, n, .inl f))] := hD
      have hP := bf_upd_4 hi (wz := [(kb, .inl (cB, n, .inl f))]) hP
      have hD := bf_D.re (ws' := [(h0, .inr (2, [.ref a0, .ref a1, .ref a2, .ref a3, .ref a4, .int en, wk])), (a0, .inl (cI, 256, .inl (fun k => (upd (bf_T0 bf_PI f n (i)) i ((bf_T0 bf_PI f n (i)) i ^^^ bf_kw f n i 4)) (18 + k)))), (a1, .inl (cI, 256, .inl (fun k => (upd (bf_T0 bf_PI f n (i)) i ((bf_T0 bf_PI f n (i)) i ^^^ bf_kw f n i 4)) (274 + k)))), (a2, .inl (cI, 256, .inl (fun k => (upd (bf_T0 bf_PI f n (i)) i ((bf_T0 bf_PI f n (i)) i ^^^ bf_kw f n i 4)) (530 + k)))), (a3, .inl (cI, 256, .inl (fun k => (upd (bf_T0 bf_PI f n (i)) i ((bf_T0 bf_PI f n (i)) i ^^^ bf_kw f n i 4)) (786 + k)))), (a4, .inl (cI, 18, .inl (upd (bf_T0 bf_PI f n (i)) i ((bf_T0 bf_PI f n (i)) i ^^^ bf_kw f n i 4)))), (kb, .inl (cB, n, .inl f))]) hD [h0, a0, a1, a2, a3, a4, kb] rfl rfl
      have hP : va_P (dC, dI) vwCl [(h0, .inr (2, [.ref a0, .ref a1, .ref a2, .ref a3, .ref a4, .int en, wk])), (a0, .inl (cI, 256, .inl (fun k => (upd (bf_T0 bf_PI f n (i)) i ((bf_T0 bf_PI f n (i)) i ^^^ bf_kw f n i 4)) (18 + k)))), (a1, .inl (cI, 256, .inl (fun k => (upd (bf_T0 bf_PI f n (i)) i ((bf_T0 bf_PI f n (i)) i ^^^ bf_kw f n i 4)) (274 + k)))), (a2, .inl (cI, 256, .inl (fun k => (upd (bf_T0 bf_PI f n (i)) i ((bf_T0 bf_PI f n (i)) i ^^^ bf_kw f n i 4)) (530 + k)))), (a3, .inl (cI, 256, .inl (fun k => (upd (bf_T0 bf_PI f n (i)) i ((bf_T0 bf_PI f n (i)) i ^^^ bf_kw f n i 4)) (786 + k)))), (a4, .inl (cI, 18, .inl (upd (bf_T0 bf_PI f n (i)) i ((bf_T0 bf_PI f n (i)) i ^^^ bf_kw f n i 4)))), (kb, .inl (cB, n, .inl f))] H := hP
      have hD : va_D A [(h0, .inr (2, [.ref a0, .ref a1, .ref a2, .ref a3, .ref a4, .int en, wk])), (a0, .inl (cI, 256, .inl (fun k => (upd (bf_T0 bf_PI f n (i)) i ((bf_T0 bf_PI f n (i)) i ^^^ bf_kw f n i 4)) (18 + k)))), (a1, .inl (cI, 256, .inl (fun k => (upd (bf_T0 bf_PI f n (i)) i ((bf_T0 bf_PI f n (i)) i ^^^ bf_kw f n i 4)) (274 + k)))), (a2, .inl (cI, 256, .inl (fun k => (upd (bf_T0 bf_PI f n (i)) i ((bf_T0 bf_PI f n (i)) i ^^^ bf_kw f n i 4)) (530 + k)))), (a3, .inl (cI, 256, .inl (fun k => (upd (bf_T0 bf_PI f n (i)) i ((bf_T0 bf_PI f n (i)) i ^^^ bf_kw f n i 4)) (786 + k)))), (a4, .inl (cI, 18, .inl (upd (bf_T0 bf_PI f n (i)) i ((bf_T0 bf_PI f n (i)) i ^^^ bf_kw f n i 4)))), (kb, .inl (cB, n, .inl f))] := hD
      rw [bf_T0_s] at hP hD
      refine lv_iinc (v := nI (i + 1)) (lv' := [(4, .int (nI (i + 1))), (0, .ref h0), (1, .ref kb), (2, .int (nI n)), (3, .int (nI ((4 * i + 4) % n))), (5, .int (bf_kw f n i (4))), (6, .int (nI (4)))]) hx hb dX2_setKey_167 hl (k := 4) rfl (nI_add i 1) (by decide) rfl (fun ls hl => ?_)
      refine lv_goto (tgt := 105) hx hb dX2_setKey_170 (by decide) ?_
      rw [show 4 * i + 4 = 4 * (i + 1) by omega] at hl
      exact ih H locs ls ⟨hP, hD, hS, lv_sub hl [1, 2, 3, 4, 0] rfl⟩
    · obtain ⟨hP, hD, hS, hl⟩ := hI
      refine lv_iload hx hb dX2_setKey_118 (lv_at hl 6 rfl) ?_
      refine lv_iconst (v := 4) hx hb dX2_setKey_120 (by decide) ?_
      refine lv_icmp_ge (tgt := 155) hx hb dX2_setKey_121 (by decide) (fun h9 => absurd h9 (nI_ge (a := j) (b := 4) hj (Nat.le_of_ble_eq_true rfl))) (fun _ => ?_)
      have hm : (4 * i + j) % n < n := Nat.mod_lt _ (by omega)
      refine lv_iload hx hb dX2_setKey_124 (lv_at hl 5 rfl) ?_
      refine lv_bipush (v := 8) hx hb dX2_setKey_126 (by decide) ?_
      refine lv_ishl hx hb dX2_setKey_128 ?_
      refine lv_aload_n hx hb dX2_setKey_129 rfl (lv_at hl 1 rfl) ?_
      refine lv_iload_n hx hb dX2_setKey_130 rfl (lv_at hl 3 rfl) ?_
      refine lv_iinc (v := nI ((4 * i + j) % n + 1)) (lv' := [(3, .int (nI ((4 * i + j) % n + 1))), (0, .ref h0), (1, .ref kb), (2, .int (nI n)), (4, .int (nI i)), (5, .int (bf_kw f n i (j))), (6, .int (nI (j)))]) hx hb dX2_setKey_131 hl (k := 3) rfl (nI_add _ 1) (by decide) rfl (fun ls hl => ?_)
      refine bf_bald hx hb hK hP 6 0 rfl rfl dX2_setKey_134 ((4 * i + j) % n) rfl hm (by omega) ?_
      refine lv_sipush (v := 255) hx hb dX2_setKey_135 (by decide) ?_
      refine lv_iand hx hb dX2_setKey_138 ?_
      refine lv_ior hx hb dX2_setKey_139 ?_
      refine bf_topE (y := bf_kw f n i (j + 1)) rfl ?_
      refine lv_istore (lv' := [(5, .int (bf_kw f n i (j + 1))), (3, .int (nI ((4 * i + j) % n + 1))), (0, .ref h0), (1, .ref kb), (2, .int (nI n)), (4, .int (nI i)), (6, .int (nI (j)))]) hx hb dX2_setKey_140 hl (by decide) rfl (fun ls hl => ?_)
      refine lv_iload_n hx hb dX2_setKey_142 rfl (lv_at hl 1 rfl) ?_
      refine lv_iload_n hx hb dX2_setKey_143 rfl (lv_at hl 4 rfl) ?_
      refine lv_icmp_lt (tgt := 149) hx hb dX2_setKey_144 (by decide) (fun h9 => ?_) (fun h9 => ?_)
      · have h8 : (4 * i + j) % n + 1 < n := (nI_ltI (by omega) (by omega)).mp h9
        have h7 : (4 * i + j) % n + 1 = (4 * i + (j + 1)) % n := by rw [← Nat.add_assoc, bf_mod1 (by omega), if_pos h8]
        rw [h7] at hl
        refine lv_iinc (v := nI (j + 1)) (lv' := [(6, .int (nI (j + 1))), (5, .int (bf_kw f n i (j + 1))), (3, .int (nI ((4 * i + (j + 1)) % n))), (0, .ref h0), (1, .ref kb), (2, .int (nI n)), (4, .int (nI i))]) hx hb dX2_setKey_149 hl (k := 6) rfl (nI_add j 1) (by decide) rfl (fun ls hl => ?_)
        refine lv_goto (tgt := 118) hx hb dX2_setKey_152 (by decide) ?_
        exact jh H locs ls ⟨hP, hD, hS, lv_sub hl [3, 4, 5, 2, 6, 1, 0] rfl⟩
      · have h8 : ¬ (4 * i + j) % n + 1 < n := fun h => h9 ((nI_ltI (by omega) (by omega)).mpr h)
        refine lv_iconst (v := 0) hx hb dX2_setKey_147 (by decide) ?_
        refine lv_istore_n (lv' := [(3, .int 0), (5, .int (bf_kw f n i (j + 1))), (0, .ref h0), (1, .ref kb), (2, .int (nI n)), (4, .int (nI i)), (6, .int (nI (j)))]) hx hb dX2_setKey_148 rfl hl (by decide) rfl (fun ls hl => ?_)
        have h7 : 0 = (4 * i + (j + 1)) % n := by rw [← Nat.add_assoc, bf_mod1 (by omega), if_neg h8]
        refine lv_iinc (v := nI (j + 1)) (lv' := [(6, .int (nI (j + 1))), (3, .int 0), (5, .int (bf_kw f n i (j + 1))), (0, .ref h0), (1, .ref kb), (2, .int (nI n)), (4, .int (nI i))]) hx hb dX2_setKey_149 hl (k := 6) rfl (nI_add j 1) (by decide) rfl (fun ls hl => ?_)
        refine lv_goto (tgt := 118) hx hb dX2_setKey_152 (by decide) ?_
        have hl : lv_has ls 7 [(6, .int (nI (j + 1))), (3, .int (nI 0)), (5, .int (bf_kw f n i (j + 1))), (0, .ref h0), (1, .ref kb), (2, .int (nI n)), (4, .int (nI i))] := hl
        rw [show nI 0 = nI ((4 * i + (j + 1)) % n) from congrArg nI h7] at hl
        exact jh H locs ls ⟨hP, hD, hS, lv_sub hl [3, 4, 5, 1, 6, 2, 0] rfl⟩
end
section
/-! KeyParameter, and the engine's init -/
theorem bp_b (x : Int32) : x.toInt8.toInt32 &&& 255 = x &&& 255 := by
  apply Int32.toBitVec_inj.mp
  apply BitVec.eq_of_getLsbD_eq
  intro i hi
  have h255 : (255 : Int32).toBitVec.getLsbD i = decide (i < 8) := by
    show (BitVec.ofNat 32 (2 ^ 8 - 1)).getLsbD i = _
    rw [BitVec.getLsbD_ofNat, Nat.testBit_two_pow_sub_one]
    simp [hi]
  rw [Int32.toBitVec_and, Int32.toBitVec_and, BitVec.getLsbD_and, BitVec.getLsbD_and, h255]
  by_cases h8 : i < 8
  · have e1 : x.toInt8.toInt32.toBitVec.getLsbD i = x.toBitVec.getLsbD i := by
      show ((x.toBitVec.signExtend 8).signExtend 32).getLsbD i = _
      rw [BitVec.getLsbD_signExtend, if_pos h8, BitVec.getLsbD_signExtend, if_pos hi]
      simp [h8, hi]
    rw [e1]
  · simp [h8]
theorem bf_K_t (T : Nat → Int32) : bf_K T true = T := by
  funext i
  simp [bf_K]
theorem bf_K_f (T : Nat → Int32) : bf_K T false = fun i => T (17 - i) := by
  funext i
  simp [bf_K]
theorem bf_out_1 (T f b o : Nat → Int32) (n : Nat) : bf_put (bf_put o 0 (bf_cr (bf_sch T f n) (bf_sch T f n) (bf_wd b 0 4) (bf_wd b 4 4)).1) 4 (bf_cr (bf_sch T f n) (bf_sch T f n) (bf_wd b 0 4) (bf_wd b 4 4)).2 = bf_out T f b o n true := by
  unfold bf_out
  rw [bf_K_t]
theorem bf_out_0 (T f b o : Nat → Int32) (n : Nat) : bf_put (bf_put o 0 (bf_cr (bf_sch T f n) (fun i => bf_sch T f n (17 - i)) (bf_wd b 0 4) (bf_wd b 4 4)).1) 4 (bf_cr (bf_sch T f n) (fun i => bf_sch T f n (17 - i)) (bf_wd b 0 4) (bf_wd b 4 4)).2 = bf_out T f b o n false := by
  unfold bf_out
  rw [bf_K_f]
/-- what a call through an interface asks -/
theorem bf_lwF {own : String} {idx : Nat} {C : String} {x y : MethodName} {b : ByteArray} {L : Nat} {r : Option FieldType} (h1 : Cond.methodLink own idx x ∈ lw_all) (h2 : Cond.selects C x y ∈ lw_all) (h3 : Cond.instanceMethod y ∈ lw_all) (h4 : Cond.initialized y.cls ∈ lw_all) (h5 : Cond.code y b L r ∈ lw_all) : GoodIn lw_all (va_wsF own idx C x y (ws_ y b L r)) := by
  refine lw_app ?_ (lw_meth h5)
  intro w hw
  simp only [List.mem_cons, List.not_mem_nil, or_false] at hw
  rcases hw with e | e | e | e
  · rw [e]; exact h1
  · rw [e]; exact h2
  · rw [e]; exact h3
  · rw [e]; exact h4
section BFB
variable {p : Program} {l : Launch} {e : Env} {R : Room} {s : State} {m : MethodId} {args : Array Value} {below : List Frame} {meth : Method} {c : Code} {H : Heap} {locs : List Loc} {cells slots : Nat} {Q : State → Prop}
variable {cc : ByteArray} {pc : Nat} {ls : Array Slot} {rest : List Value} {D : va_G} {cl : List vw_C} {A : Nat → Prop} {a : Nat} {tys : List (ClassId × FieldType)} {ws : va_W} {H0 : Heap}
/-- System.arraycopy of a whole byte array into a new one of its length -/
theorem bf_copyB {cc : ByteArray} (hexec : p.tables.exec = Jvm.exec) (hb : c.code = cc) (hml : c.maxLocals = ls.size) {own : String} {index : Nat} (hown : s.vm.findClass own = some m.cls) (hlink : (Cond.methodLink own index arraycopyName).before args s = true) (hnat : (Cond.native arraycopyName).before args s = true) (hstat : (Cond.static arraycopyName).before args s = true) (hini : (Cond.initialized "java/lang/System").before args s = true)
    (hK : va_K D cl tys s) (hP : va_P D cl ws H) (hD : va_D A ws) (hS : va_S A H0 H locs) (q0 q1 t0 : Nat) {a0 : Nat} {c0 : ClassId} {N : Nat} {f g : Nat → Int32} (ha0 : ws[q0]? = some (a0, .inl (c0, N, .inl f))) (ha1 : ws[q1]? = some (a, .inl (c0, N, .inl g))) (ht0 : tys[t0]? = some (c0, .byte))
    {n : Int32} (hn : n = nI N) (hN : N < 2 ^ 31) (hfit : ∀ i, i < N → fits .byte (.int (f i)) = true)
    (hframes : 1 ≤ R.frames) (hlocals : (rest.map fun v => v.category).sum + (nativeFrameWords "java/lang/System" "arraycopy" 5 + 11) ≤ R.locals) (hdg : decode cc pc = .ok (.invokestatic index, 3))
    (kk : ∀ (H1 : Heap) (locs1 : List Loc), va_P D cl (ws.set q1 (a, .inl (c0, N, .inl f))) H1 → va_D A (ws.set q1 (a, .inl (c0, N, .inl f))) → va_S A H0 H1 locs1 → W p l e R s m args below meth c H1 locs1 cells slots Q (F0 m (pc + 3) ls rest)) : W p l e R s m args below meth c H locs cells slots Q (F0 m pc ls (.int n :: .int 0 :: .ref a :: .int 0 :: .ref a0 :: rest)) := by
  subst hn
  have z0 : (0 : Int32).toNatClampNeg = 0 := by decide
  have zn : (nI N).toNatClampNeg = N := nI_clamp hN
  refine va_copyi hexec hb hml hown hlink hnat hstat hini hK hP hD hS q0 q1 t0 t0 ha0 ha1 ht0 ht0 rfl (by decide) (by decide) (nI_pos hN) (by rw [z0, zn]; omega) (by rw [z0, zn]; omega) (fun i hi => by rw [z0, Nat.zero_add]; rw [zn] at hi; exact hfit i hi) hframes hlocals hdg (fun H1 locs1 hP1 hD1 hS1 => ?_)
  rw [z0, zn] at hP1 hD1
  have hl1 := (List.getElem?_eq_some_iff.mp ha1).1
  have e1 : (ws.set q1 (a, .inl (c0, N, .inl (va_cpy f g 0 0 N))))[q1]? = some (a, .inl (c0, N, .inl (va_cpy f g 0 0 N))) := List.getElem?_set_self hl1
  have hP2 := bf_P.re hP1 q1 (g := f) e1 (fun j hj => by rw [pk_cpy_in (Nat.zero_le j) (by omega)]; simp) rfl
  rw [List.set_set] at hP2
  exact kk H1 locs1 hP2 (hD.set ha1) hS1
end BFB
set_option maxHeartbeats 4000000 in
set_option maxRecDepth 100000 in
/-- KeyParameter(n): a new array of n bytes -/
theorem met_X3_init_3 (l : Launch) (dC : Nat → ClassId) (dI : Nat → Nat → Nat) (cB cI : ClassId) (sz : Nat) (kp n : Nat) (hn : n ≤ 24) : Met l yX3_init_3 (ws_ yX3_init_3 cX3_init_3 2 none) ({ frames := 1, cells := 1, slots := 24, locals := 12 }) (va_Pc [.ref kp, .int (nI n)] (bfPre (dC, dI) cB cI [(kp, .inr (3, [.null]))] sz)) (va_Qv (fun _ : Nat => True) (fun u t => bfPost (dC, dI) [(kp, .inr (3, [.ref u])), (u, .inl (cB, n, .inl (fun _ => 0)))] (va_A [(kp, .inr (3, [.null]))] sz) t) (va_A [(kp, .inr (3, [.null]))] sz)) 1 24 (va_A [(kp, .inr (3, [.null]))] sz) := by
  refine Met.ofW (cc := cX3_init_3) (maxL := 2) (ret := none) (by decide) rfl ?_
  intro p e s m args below meth c s₁ hBo hml hv
  obtain ⟨rfl, hsz, hP, hK, hD0⟩ := hv
  have hx := hBo.exec
  have hb := hBo.bytes
  have hr := hBo.returns
  have hts := atoms_spec (ws := (ws_ yX3_init_3 cX3_init_3 2 none)) hBo.pre
  have hts : ∀ w ∈ lw_all, w.before _ s = true := fun w h => hts w (List.mem_cons_of_mem _ h)
  have hown : s.vm.findClass RX3 = some m.cls := findClass_of_methodNamed hBo.named
  have hlocks := hBo.notSynchronized
  have hin : meth.name = "<init>" := (name_of_methodNamed hBo.named hBo.method).1
  subst hsz
  have hD := hD0.self (sz := s.heap.size)
  generalize hAe : va_A [(kp, .inr (3, [.null]))] s.heap.size = A at hD ⊢
  have hA : ∀ q : Nat, s.heap.size ≤ q → A q := fun q h => by rw [← hAe]; exact Or.inr h
  have hS : va_S A s.heap s.heap [] := va_S.rf
  have hl := lv_entry ([.ref kp, .int (nI n)]) (n := 2) (Nat.le_of_ble_eq_true rfl)
  rw [lg_entry_eq]
  generalize (lg_sl ([.ref kp, .int (nI n)]) ++ List.replicate (2 - (lg_sl ([.ref kp, .int (nI n)])).length) Slot.unset).toArray = ls at hl ⊢
  have hl : lv_has ls 2 [(0, .ref kp), (1, .int (nI n))] := hl
  refine lv_aload_n hx hb dX3_init_3_0 rfl (lv_at hl 0 rfl) ?_
  refine W.objInit hx hb hown (hts _ q108) (hts _ q33) (hts _ q34) rfl (by rw [hml]; exact hl.1) rfl dX3_init_3_1 (Nat.le_of_ble_eq_true rfl) (Nat.le_of_ble_eq_true rfl) ?_
  refine W.eq (g2 := F0 m 4 ls []) rfl ?_
  refine lv_aload_n hx hb dX3_init_3_4 rfl (lv_at hl 0 rfl) ?_
  refine lv_iload_n hx hb dX3_init_3_5 rfl (lv_at hl 1 rfl) ?_
  refine bf_newa (atype := .byte) hx hb (hts _ q45) rfl hK 0 rfl (fun z z' h h' => Option.some.inj (h.symm.trans h')) hP hD hS hA dX3_init_3_6 n rfl (by omega) (n, .inl (fun _ => 0)) (fun _ => rfl) (by show n * 1 ≤ _; omega) (Nat.le_of_ble_eq_true rfl) (by show 0 + n ≤ 24; omega) (fun q H hP hD hS => ?_)
  have hP : va_P (dC, dI) vwCl [(kp, .inr (3, [.null])), (q, .inl (cB, n, .inl (fun _ => 0)))] H := hP
  have hD : va_D A [(kp, .inr (3, [.null])), (q, .inl (cB, n, .inl (fun _ => 0)))] := hD
  refine va_put (D := (dC, dI)) (ci := 3) (v := .ref q) (ty := .array .byte) (C := RX3) (T := TX3) (N := 1) hx hb hts in_X3 tyX3 tyX3_ok nmX3 hown hK hP hD hS 0 rfl rfl 0 (by decide) (hts _ q109) (fun _ h9 => h9) rfl (by decide +kernel) rfl rfl (Nat.le_of_ble_eq_true rfl) dX3_init_3_8 (fun H locs hP hD hS => ?_)
  have hP : va_P (dC, dI) vwCl [(kp, .inr (3, [.ref q])), (q, .inl (cB, n, .inl (fun _ => 0)))] H := hP
  have hD : va_D A [(kp, .inr (3, [.ref q])), (q, .inl (cB, n, .inl (fun _ => 0)))] := hD
  refine W.widen (k := 1) (n := 24) (Nat.le_of_ble_eq_true rfl) (by omega) ?_
  exact W.vret hx hb hr (fun t ht hW => ⟨⟨q, rfl, trivial, by rw [ht]; exact hP, hD⟩, hS.F ht⟩) hS.2.2 dX3_init_3_11
set_option maxHeartbeats 4000000 in
set_option maxRecDepth 100000 in
/-- KeyParameter(key, 0, n): a copy of the key -/
theorem met_X3_init_2 (l : Launch) (dC : Nat → ClassId) (dI : Nat → Nat → Nat) (cB cI : ClassId) (sz : Nat) (kp ka n : Nat) (f : Nat → Int32) (hn : n ≤ 24) (hfit : ∀ i, i < n → fits .byte (.int (f i)) = true) : Met l yX3_init_2 (ws_ yX3_init_2 cX3_init_2 4 none) ({ frames := 2, cells := 1, slots := 24, locals := 33 }) (va_Pc [.ref kp, .ref ka, .int 0, .int (nI n)] (bfPre (dC, dI) cB cI [(kp, .inr (3, [.null])), (ka, .inl (cB, n, .inl f))] sz)) (va_Qv (fun _ : Nat => True) (fun u t => bfPost (dC, dI) [(ka, .inl (cB, n, .inl f)), (kp, .inr (3, [.ref u])), (u, .inl (cB, n, .inl f))] (va_A [(kp, .inr (3, [.null])), (ka, .inl (cB, n, .inl f))] sz) t) (va_A [(kp, .inr (3, [.null])), (ka, .inl (cB, n, .inl f))] sz)) 1 24 (va_A [(kp, .inr (3, [.null])), (ka, .inl (cB, n, .inl f))] sz) := by
  refine Met.ofW (cc := cX3_init_2) (maxL := 4) (ret := none) (by decide) rfl ?_
  intro p e s m args below meth c s₁ hBo hml hv
  obtain ⟨rfl, hsz, hP, hK, hD0⟩ := hv
  have hx := hBo.exec
  have hb := hBo.bytes
  have hr := hBo.returns
  have hts := atoms_spec (ws := (ws_ yX3_init_2 cX3_init_2 4 none)) hBo.pre
  have hts : ∀ w ∈ lw_all, w.before _ s = true := fun w h => hts w (List.mem_cons_of_mem _ h)
  have hown : s.vm.findClass RX3 = some m.cls := findClass_of_methodNamed hBo.named
  have hlocks := hBo.notSynchronized
  have hin : meth.name = "<init>" := (name_of_methodNamed hBo.named hBo.method).1
  subst hsz
  have hD := hD0.self (sz := s.heap.size)
  generalize hAe : va_A [(kp, .inr (3, [.null])), (ka, .inl (cB, n, .inl f))] s.heap.size = A at hD ⊢
  have hA : ∀ q : Nat, s.heap.size ≤ q → A q := fun q h => by rw [← hAe]; exact Or.inr h
  have hS : va_S A s.heap s.heap [] := va_S.rf
  have hl := lv_entry ([.ref kp, .ref ka, .int 0, .int (nI n)]) (n := 4) (Nat.le_of_ble_eq_true rfl)
  rw [lg_entry_eq]
  generalize (lg_sl ([.ref kp, .ref ka, .int 0, .int (nI n)]) ++ List.replicate (4 - (lg_sl ([.ref kp, .ref ka, .int 0, .int (nI n)])).length) Slot.unset).toArray = ls at hl ⊢
  have hl : lv_has ls 4 [(0, .ref kp), (1, .ref ka), (2, .int 0), (3, .int (nI n))] := hl
  refine lv_aload_n hx hb dX3_init_2_0 rfl (lv_at hl 0 rfl) ?_
  refine lv_iload_n hx hb dX3_init_2_1 rfl (lv_at hl 3 rfl) ?_
  refine bf_callv (wr := [(ka, .inl (cB, n, .inl f))]) (va_runI (As := [.int (nI n)]) (rest := []) ⟨hx, hb, hml, hown, hts⟩ (met_X3_init_3 l dC dI cB cI s.heap.size kp n hn) (cwI 1 hts (lw_meth q107) rfl rfl rfl (hts _ q17) (hts _ q105) (hts _ q106) rfl (by decide +kernel) ⟨Nat.le_of_ble_eq_true rfl, Nat.le_of_ble_eq_true rfl⟩) (bf_preS hK hP hD [0] (by decide) rfl) rfl rfl hl.1 rfl (lv_room (Nat.le_of_ble_eq_true rfl)) dX3_init_2_2 ⟨Nat.le_of_ble_eq_true rfl, Nat.le_of_ble_eq_true rfl⟩) hP hD hS hA [0] [1] rfl rfl (by decide) (by decide) (fun u H locs hP hD hS => ?_)
  have hP : va_P (dC, dI) vwCl [(ka, .inl (cB, n, .inl f)), (kp, .inr (3, [.ref u])), (u, .inl (cB, n, .inl (fun _ => 0)))] H := hP
  have hD : va_D A [(ka, .inl (cB, n, .inl f)), (kp, .inr (3, [.ref u])), (u, .inl (cB, n, .inl (fun _ => 0)))] := hD
  refine lv_aload_n hx hb dX3_init_2_5 rfl (lv_at hl 1 rfl) ?_
  refine lv_iload_n hx hb dX3_init_2_6 rfl (lv_at hl 2 rfl) ?_
  refine lv_aload_n hx hb dX3_init_2_7 rfl (lv_at hl 0 rfl) ?_
  refine va_get (D := (dC, dI)) (ci := 3) (v := .ref u) (C := RX3) (T := TX3) (N := 1) hx hb hts in_X3 hown hK hP 1 rfl rfl 0 (by decide) (hts _ q109) (fun _ h9 => h9) rfl dX3_init_2_8 ?_
  refine lv_iconst (v := 0) hx hb dX3_init_2_11 (by decide) ?_
  refine lv_iload_n hx hb dX3_init_2_12 rfl (lv_at hl 3 rfl) ?_
  refine bf_copyB hx hb (by rw [hml]; exact hl.1.symm) hown (hts _ q113) (hts _ q115) (hts _ q114) (hts _ q18) hK hP hD hS 0 2 0 rfl rfl rfl rfl (by omega) hfit (Nat.le_of_ble_eq_true rfl) (by rw [bf_nfw]; exact Nat.le_of_ble_eq_true rfl) dX3_init_2_13 (fun H locs hP hD hS => ?_)
  have hP : va_P (dC, dI) vwCl [(ka, .inl (cB, n, .inl f)), (kp, .inr (3, [.ref u])), (u, .inl (cB, n, .inl f))] H := hP
  have hD : va_D A [(ka, .inl (cB, n, .inl f)), (kp, .inr (3, [.ref u])), (u, .inl (cB, n, .inl f))] := hD
  exact W.vret hx hb hr (fun t ht hW => ⟨⟨u, rfl, trivial, by rw [ht]; exact hP, hD⟩, hS.F ht⟩) hS.2.2 dX3_init_2_16
set_option maxHeartbeats 4000000 in
set_option maxRecDepth 100000 in
/-- KeyParameter(key): a copy of the key -/
theorem met_X3_init (l : Launch) (dC : Nat → ClassId) (dI : Nat → Nat → Nat) (cB cI : ClassId) (sz : Nat) (kp ka n : Nat) (f : Nat → Int32) (hn : n ≤ 24) (hfit : ∀ i, i < n → fits .byte (.int (f i)) = true) : Met l yX3_init (ws_ yX3_init cX3_init 2 none) ({ frames := 3, cells := 1, slots := 24, locals := 56 }) (va_Pc [.ref kp, .ref ka] (bfPre (dC, dI) cB cI [(kp, .inr (3, [.null])), (ka, .inl (cB, n, .inl f))] sz)) (va_Qv (fun _ : Nat => True) (fun u t => bfPost (dC, dI) [(ka, .inl (cB, n, .inl f)), (kp, .inr (3, [.ref u])), (u, .inl (cB, n, .inl f))] (va_A [(kp, .inr (3, [.null])), (ka, .inl (cB, n, .inl f))] sz) t) (va_A [(kp, .inr (3, [.null])), (ka, .inl (cB, n, .inl f))] sz)) 1 24 (va_A [(kp, .inr (3, [.null])), (ka, .inl (cB, n, .inl f))] sz) := by
  refine Met.ofW (cc := cX3_init) (maxL := 2) (ret := none) (by decide) rfl ?_
  intro p e s m args below meth c s₁ hBo hml hv
  obtain ⟨rfl, hsz, hP, hK, hD0⟩ := hv
  have hx := hBo.exec
  have hb := hBo.bytes
  have hr := hBo.returns
  have hts := atoms_spec (ws := (ws_ yX3_init cX3_init 2 none)) hBo.pre
  have hts : ∀ w ∈ lw_all, w.before _ s = true := fun w h => hts w (List.mem_cons_of_mem _ h)
  have hown : s.vm.findClass RX3 = some m.cls := findClass_of_methodNamed hBo.named
  have hlocks := hBo.notSynchronized
  have hin : meth.name = "<init>" := (name_of_methodNamed hBo.named hBo.method).1
  subst hsz
  have hD := hD0.self (sz := s.heap.size)
  generalize hAe : va_A [(kp, .inr (3, [.null])), (ka, .inl (cB, n, .inl f))] s.heap.size = A at hD ⊢
  have hA : ∀ q : Nat, s.heap.size ≤ q → A q := fun q h => by rw [← hAe]; exact Or.inr h
  have hS : va_S A s.heap s.heap [] := va_S.rf
  have hl := lv_entry ([.ref kp, .ref ka]) (n := 2) (Nat.le_of_ble_eq_true rfl)
  rw [lg_entry_eq]
  generalize (lg_sl ([.ref kp, .ref ka]) ++ List.replicate (2 - (lg_sl ([.ref kp, .ref ka])).length) Slot.unset).toArray = ls at hl ⊢
  have hl : lv_has ls 2 [(0, .ref kp), (1, .ref ka)] := hl
  refine lv_aload_n hx hb dX3_init_0 rfl (lv_at hl 0 rfl) ?_
  refine lv_aload_n hx hb dX3_init_1 rfl (lv_at hl 1 rfl) ?_
  refine lv_iconst (v := 0) hx hb dX3_init_2 (by decide) ?_
  refine lv_aload_n hx hb dX3_init_3 rfl (lv_at hl 1 rfl) ?_
  refine va_alen (v := nI n) hx hb hK hP 1 0 rfl rfl rfl dX3_init_4 ?_
  refine bf_callv (wr := []) (va_runI (As := [.ref ka, .int 0, .int (nI n)]) (rest := []) ⟨hx, hb, hml, hown, hts⟩ (met_X3_init_2 l dC dI cB cI s.heap.size kp ka n f hn hfit) (cwI 3 hts (lw_meth q104) rfl rfl rfl (hts _ q17) (hts _ q102) (hts _ q103) rfl (by decide +kernel) ⟨Nat.le_of_ble_eq_true rfl, Nat.le_of_ble_eq_true rfl⟩) (bf_preS hK hP hD [0, 1] (by decide) rfl) rfl rfl hl.1 rfl (lv_room (Nat.le_of_ble_eq_true rfl)) dX3_init_5 ⟨Nat.le_of_ble_eq_true rfl, Nat.le_of_ble_eq_true rfl⟩) hP hD hS hA [0, 1] [] rfl rfl (by decide) (by decide) (fun u H locs hP hD hS => ?_)
  have hP : va_P (dC, dI) vwCl [(ka, .inl (cB, n, .inl f)), (kp, .inr (3, [.ref u])), (u, .inl (cB, n, .inl f))] H := hP
  have hD : va_D A [(ka, .inl (cB, n, .inl f)), (kp, .inr (3, [.ref u])), (u, .inl (cB, n, .inl f))] := hD
  exact W.vret hx hb hr (fun t ht hW => ⟨⟨u, rfl, trivial, by rw [ht]; exact hP, hD⟩, hS.F ht⟩) hS.2.2 dX3_init_8
set_option maxHeartbeats 4000000 in
set_option maxRecDepth 100000 in
/-- getKey() -/
theorem met_X3_getKey (l : Launch) (dC : Nat → ClassId) (dI : Nat → Nat → Nat) (cB cI : ClassId) (kp kb : Nat) : Met l yX3_getKey (ws_ yX3_getKey cX3_getKey 1 (some (.array .byte))) ({ frames := 0, cells := 0, slots := 0, locals := 0 }) (va_Pc [.ref kp] (bfRd (dC, dI) cB cI [(kp, .inr (3, [.ref kb]))])) (va_Sr (fun _ => True) (fun _ => .ref kb)) 0 0 (fun _ => False) := by
  refine Met.ofW (cc := cX3_getKey) (maxL := 1) (ret := (some (.array .byte))) (by decide) rfl ?_
  intro p e s m args below meth c s₁ hBo hml hv
  obtain ⟨rfl, hP, hK⟩ := hv
  have hx := hBo.exec
  have hb := hBo.bytes
  have hr := hBo.returns
  have hts := atoms_spec (ws := (ws_ yX3_getKey cX3_getKey 1 (some (.array .byte)))) hBo.pre
  have hts : ∀ w ∈ lw_all, w.before _ s = true := fun w h => hts w (List.mem_cons_of_mem _ h)
  have hown : s.vm.findClass RX3 = some m.cls := findClass_of_methodNamed hBo.named
  have hlocks := hBo.notSynchronized
  have hl := lv_entry ([.ref kp]) (n := 1) (Nat.le_of_ble_eq_true rfl)
  rw [lg_entry_eq]
  generalize (lg_sl ([.ref kp]) ++ List.replicate (1 - (lg_sl ([.ref kp])).length) Slot.unset).toArray = ls at hl ⊢
  have hl : lv_has ls 1 [(0, .ref kp)] := hl
  refine lv_aload_n hx hb dX3_getKey_0 rfl (lv_at hl 0 rfl) ?_
  refine va_get (D := (dC, dI)) (ci := 3) (v := .ref kb) (C := RX3) (T := TX3) (N := 1) hx hb hts in_X3 hown hK hP 0 rfl rfl 0 (by decide) (hts _ q109) (fun _ h9 => h9) rfl dX3_getKey_1 ?_
  exact W.aret (v := .ref kb) hx hb hr (Or.inr ⟨_, rfl⟩) (Or.inr ⟨_, rfl⟩) (fun t ht hW => ⟨0, rfl, trivial, by rw [ht]⟩) (fun q h => by cases h) dX3_getKey_4
set_option maxHeartbeats 4000000 in
set_option maxRecDepth 100000 in
/-- init(true, key): the tables as the key makes them -/
theorem met_X2_init_2_1 (l : Launch) (dC : Nat → ClassId) (dI : Nat → Nat → Nat) (cB cI : ClassId) (tS : Nat → Nat) (sz : Nat) (h0 a0 a1 a2 a3 a4 kp kb n : Nat) (en : Int32) (wk : Value) (g0 g1 g2 g3 g4 f : Nat → Int32) (hn4 : 4 ≤ n) (hn56 : n ≤ 56) : Met l yX2_init_2 (ws_ yX2_init_2 cX2_init_2 3 none) ({ frames := 3, cells := 0, slots := 0, locals := 73 }) (va_Pc [.ref h0, .int 1, .ref kp] (bfPreX (dC, dI) cB cI tS [(h0, .inr (2, [.ref a0, .ref a1, .ref a2, .ref a3, .ref a4, .int en, wk])), (a0, .inl (cI, 256, .inl g0)), (a1, .inl (cI, 256, .inl g1)), (a2, .inl (cI, 256, .inl g2)), (a3, .inl (cI, 256, .inl g3)), (a4, .inl (cI, 18, .inl g4)), (kp, .inr (3, [.ref kb])), (kb, .inl (cB, n, .inl f))] sz)) (va_Qv (fun _ : Unit => True) (fun _ t => bfPost (dC, dI) [(kp, .inr (3, [.ref kb])), (h0, .inr (2, [.ref a0, .ref a1, .ref a2, .ref a3, .ref a4, .int 1, .ref kb])), (a0, .inl (cI, 256, .inl (fun k => (bf_sch bf_PI f n) (18 + k)))), (a1, .inl (cI, 256, .inl (fun k => (bf_sch bf_PI f n) (274 + k)))), (a2, .inl (cI, 256, .inl (fun k => (bf_sch bf_PI f n) (530 + k)))), (a3, .inl (cI, 256, .inl (fun k => (bf_sch bf_PI f n) (786 + k)))), (a4, .inl (cI, 18, .inl (bf_sch bf_PI f n))), (kb, .inl (cB, n, .inl f))] (va_A [(h0, .inr (2, [.ref a0, .ref a1, .ref a2, .ref a3, .ref a4, .int en, wk])), (a0, .inl (cI, 256, .inl g0)), (a1, .inl (cI, 256, .inl g1)), (a2, .inl (cI, 256, .inl g2)), (a3, .inl (cI, 256, .inl g3)), (a4, .inl (cI, 18, .inl g4)), (kp, .inr (3, [.ref kb])), (kb, .inl (cB, n, .inl f))] sz) t) (va_A [(h0, .inr (2, [.ref a0, .ref a1, .ref a2, .ref a3, .ref a4, .int en, wk])), (a0, .inl (cI, 256, .inl g0)), (a1, .inl (cI, 256, .inl g1)), (a2, .inl (cI, 256, .inl g2)), (a3, .inl (cI, 256, .inl g3)), (a4, .inl (cI, 18, .inl g4)), (kp, .inr (3, [.ref kb])), (kb, .inl (cB, n, .inl f))] sz)) 0 0 (va_A [(h0, .inr (2, [.ref a0, .ref a1, .ref a2, .ref a3, .ref a4, .int en, wk])), (a0, .inl (cI, 256, .inl g0)), (a1, .inl (cI, 256, .inl g1)), (a2, .inl (cI, 256, .inl g2)), (a3, .inl (cI, 256, .inl g3)), (a4, .inl (cI, 18, .inl g4)), (kp, .inr (3, [.ref kb])), (kb, .inl (cB, n, .inl f))] sz) := by
  refine Met.ofW (cc := cX2_init_2) (maxL := 3) (ret := none) (by decide) rfl ?_
  intro p e s m args below meth c s₁ hBo hml hv
  obtain ⟨rfl, ⟨hsz, hP, hK, hD0⟩, hX⟩ := hv
  have hx := hBo.exec
  have hb := hBo.bytes
  have hr := hBo.returns
  have hts := atoms_spec (ws := (ws_ yX2_init_2 cX2_init_2 3 none)) hBo.pre
  have hts : ∀ w ∈ lw_all, w.before _ s = true := fun w h => hts w (List.mem_cons_of_mem _ h)
  have hown : s.vm.findClass RX2 = some m.cls := findClass_of_methodNamed hBo.named
  have hlocks := hBo.notSynchronized
  subst hsz
  have hD := hD0.self (sz := s.heap.size)
  generalize hAe : va_A [(h0, .inr (2, [.ref a0, .ref a1, .ref a2, .ref a3, .ref a4, .int en, wk])), (a0, .inl (cI, 256, .inl g0)), (a1, .inl (cI, 256, .inl g1)), (a2, .inl (cI, 256, .inl g2)), (a3, .inl (cI, 256, .inl g3)), (a4, .inl (cI, 18, .inl g4)), (kp, .inr (3, [.ref kb])), (kb, .inl (cB, n, .inl f))] s.heap.size = A at hD ⊢ hX
  have hA : ∀ q : Nat, s.heap.size ≤ q → A q := fun q h => by rw [← hAe]; exact Or.inr h
  have hS : va_S A s.heap s.heap [] := va_S.rf
  have hl := lv_entry ([.ref h0, .int 1, .ref kp]) (n := 3) (Nat.le_of_ble_eq_true rfl)
  rw [lg_entry_eq]
  generalize (lg_sl ([.ref h0, .int 1, .ref kp]) ++ List.replicate (3 - (lg_sl ([.ref h0, .int 1, .ref kp])).length) Slot.unset).toArray = ls at hl ⊢
  have hl : lv_has ls 3 [(0, .ref h0), (1, .int 1), (2, .ref kp)] := hl
  refine lv_aload_n hx hb dX2_init_2_0 rfl (lv_at hl 2 rfl) ?_
  refine va_instS hx hb hown (hts _ q126) (hK.1 3 _ rfl).2 (va_recv hK hP (ci := 3) (q0 := 6) rfl rfl) dX2_init_2_1 ?_
  refine lv_if_eq (tgt := 32) hx hb dX2_init_2_4 (by decide) (fun h9 => absurd h9 (by decide)) (fun _ => ?_)
  refine lv_aload_n hx hb dX2_init_2_7 rfl (lv_at hl 0 rfl) ?_
  refine lv_iload_n hx hb dX2_init_2_8 rfl (lv_at hl 1 rfl) ?_
  refine va_put (D := (dC, dI)) (ci := 2) (v := .int 1) (ty := .boolean) (C := RX2) (T := TX2) (N := 7) hx hb hts in_X2 tyX2 tyX2_ok nmX2 hown hK hP hD hS 0 rfl rfl 5 (by decide) (hts _ q79) (fun _ h9 => h9) rfl (by decide +kernel) (by decide) (by decide) (Nat.le_of_ble_eq_true rfl) dX2_init_2_9 (fun H locs hP hD hS => ?_)
  have hP : va_P (dC, dI) vwCl [(h0, .inr (2, [.ref a0, .ref a1, .ref a2, .ref a3, .ref a4, .int 1, wk])), (a0, .inl (cI, 256, .inl g0)), (a1, .inl (cI, 256, .inl g1)), (a2, .inl (cI, 256, .inl g2)), (a3, .inl (cI, 256, .inl g3)), (a4, .inl (cI, 18, .inl g4)), (kp, .inr (3, [.ref kb])), (kb, .inl (cB, n, .inl f))] H := hP
  have hD : va_D A [(h0, .inr (2, [.ref a0, .ref a1, .ref a2, .ref a3, .ref a4, .int 1, wk])), (a0, .inl (cI, 256, .inl g0)), (a1, .inl (cI, 256, .inl g1)), (a2, .inl (cI, 256, .inl g2)), (a3, .inl (cI, 256, .inl g3)), (a4, .inl (cI, 18, .inl g4)), (kp, .inr (3, [.ref kb])), (kb, .inl (cB, n, .inl f))] := hD
  refine lv_aload_n hx hb dX2_init_2_12 rfl (lv_at hl 0 rfl) ?_
  refine lv_aload_n hx hb dX2_init_2_13 rfl (lv_at hl 2 rfl) ?_
  refine va_castS hx hb hown (hts _ q126) (hK.1 3 _ rfl).2 (va_recv hK hP (ci := 3) (q0 := 6) rfl rfl) dX2_init_2_14 ?_
  refine va_csr (va_Run.run (va_runV (As := []) (rest := [.ref h0]) ⟨hx, hb, hml, hown, hts⟩ (met_X3_getKey l dC dI cB cI kp kb) (cwV 0 hts (lw_V q127 q128 q129 q17 q130) rfl rfl rfl (by decide +kernel) ⟨Nat.le_of_ble_eq_true rfl, Nat.le_of_ble_eq_true rfl⟩) (bf_rdV hK hP [6] rfl (ci := 3) (q0 := 6) rfl rfl) rfl rfl hl.1 rfl (lv_room (Nat.le_of_ble_eq_true rfl)) dX2_init_2_17 ⟨Nat.le_of_ble_eq_true rfl, Nat.le_of_ble_eq_true rfl⟩)) (fun _ _ => ?_)
  refine va_put (D := (dC, dI)) (ci := 2) (v := .ref kb) (ty := .array .byte) (C := RX2) (T := TX2) (N := 7) hx hb hts in_X2 tyX2 tyX2_ok nmX2 hown hK hP hD hS 0 rfl rfl 6 (by decide) (hts _ q80) (fun _ h9 => h9) rfl (by decide +kernel) rfl rfl (Nat.le_of_ble_eq_true rfl) dX2_init_2_20 (fun H locs hP hD hS => ?_)
  have hP : va_P (dC, dI) vwCl [(h0, .inr (2, [.ref a0, .ref a1, .ref a2, .ref a3, .ref a4, .int 1, .ref kb])), (a0, .inl (cI, 256, .inl g0)), (a1, .inl (cI, 256, .inl g1)), (a2, .inl (cI, 256, .inl g2)), (a3, .inl (cI, 256, .inl g3)), (a4, .inl (cI, 18, .inl g4)), (kp, .inr (3, [.ref kb])), (kb, .inl (cB, n, .inl f))] H := hP
  have hD : va_D A [(h0, .inr (2, [.ref a0, .ref a1, .ref a2, .ref a3, .ref a4, .int 1, .ref kb])), (a0, .inl (cI, 256, .inl g0)), (a1, .inl (cI, 256, .inl g1)), (a2, .inl (cI, 256, .inl g2)), (a3, .inl (cI, 256, .inl g3)), (a4, .inl (cI, 18, .inl g4)), (kp, .inr (3, [.ref kb])), (kb, .inl (cB, n, .inl f))] := hD
  refine lv_aload_n hx hb dX2_init_2_23 rfl (lv_at hl 0 rfl) ?_
  refine lv_aload_n hx hb dX2_init_2_24 rfl (lv_at hl 0 rfl) ?_
  refine va_get (D := (dC, dI)) (ci := 2) (v := .ref kb) (C := RX2) (T := TX2) (N := 7) hx hb hts in_X2 hown hK hP 0 rfl rfl 6 (by decide) (hts _ q80) (fun _ h9 => h9) rfl dX2_init_2_25 ?_
  refine bf_callv (wr := [(kp, .inr (3, [.ref kb]))]) (va_runV (As := [.ref kb]) (rest := []) ⟨hx, hb, hml, hown, hts⟩ (met_X2_setKey l dC dI cB cI tS H.size h0 a0 a1 a2 a3 a4 kb n 1 (.ref kb) g0 g1 g2 g3 g4 f hn4 hn56) (cwV 1 hts (lw_V q131 q133 qs1 q16 q134) rfl rfl rfl (by decide +kernel) ⟨Nat.le_of_ble_eq_true rfl, Nat.le_of_ble_eq_true rfl⟩) (bf_preVX hK hP hD [0, 1, 2, 3, 4, 5, 7] (by decide) rfl (ci := 2) (q0 := 0) rfl rfl hX hS hA) rfl rfl hl.1 rfl (lv_room (Nat.le_of_ble_eq_true rfl)) dX2_init_2_28 ⟨Nat.le_of_ble_eq_true rfl, Nat.le_of_ble_eq_true rfl⟩) hP hD hS hA [0, 1, 2, 3, 4, 5, 7] [6] rfl rfl (by decide) (by decide) (fun _ H locs hP hD hS => ?_)
  have hP : va_P (dC, dI) vwCl [(kp, .inr (3, [.ref kb])), (h0, .inr (2, [.ref a0, .ref a1, .ref a2, .ref a3, .ref a4, .int 1, .ref kb])), (a0, .inl (cI, 256, .inl (fun k => (bf_sch bf_PI f n) (18 + k)))), (a1, .inl (cI, 256, .inl (fun k => (bf_sch bf_PI f n) (274 + k)))), (a2, .inl (cI, 256, .inl (fun k => (bf_sch bf_PI f n) (530 + k)))), (a3, .inl (cI, 256, .inl (fun k => (bf_sch bf_PI f n) (786 + k)))), (a4, .inl (cI, 18, .inl (bf_sch bf_PI f n))), (kb, .inl (cB, n, .inl f))] H := hP
  have hD : va_D A [(kp, .inr (3, [.ref kb])), (h0, .inr (2, [.ref a0, .ref a1, .ref a2, .ref a3, .ref a4, .int 1, .ref kb])), (a0, .inl (cI, 256, .inl (fun k => (bf_sch bf_PI f n) (18 + k)))), (a1, .inl (cI, 256, .inl (fun k => (bf_sch bf_PI f n) (274 + k)))), (a2, .inl (cI, 256, .inl (fun k => (bf_sch bf_PI f n) (530 + k)))), (a3, .inl (cI, 256, .inl (fun k => (bf_sch bf_PI f n) (786 + k)))), (a4, .inl (cI, 18, .inl (bf_sch bf_PI f n))), (kb, .inl (cB, n, .inl f))] := hD
  exact W.vret hx hb hr (fun t ht hW => ⟨⟨(), rfl, trivial, by rw [ht]; exact hP, hD⟩, hS.F ht⟩) hS.2.2 dX2_init_2_31
set_option maxHeartbeats 4000000 in
set_option maxRecDepth 100000 in
/-- init(false, key): the tables as the key makes them -/
theorem met_X2_init_2_0 (l : Launch) (dC : Nat → ClassId) (dI : Nat → Nat → Nat) (cB cI : ClassId) (tS : Nat → Nat) (sz : Nat) (h0 a0 a1 a2 a3 a4 kp kb n : Nat) (en : Int32) (wk : Value) (g0 g1 g2 g3 g4 f : Nat → Int32) (hn4 : 4 ≤ n) (hn56 : n ≤ 56) : Met l yX2_init_2 (ws_ yX2_init_2 cX2_init_2 3 none) ({ frames := 3, cells := 0, slots := 0, locals := 73 }) (va_Pc [.ref h0, .int 0, .ref kp] (bfPreX (dC, dI) cB cI tS [(h0, .inr (2, [.ref a0, .ref a1, .ref a2, .ref a3, .ref a4, .int en, wk])), (a0, .inl (cI, 256, .inl g0)), (a1, .inl (cI, 256, .inl g1)), (a2, .inl (cI, 256, .inl g2)), (a3, .inl (cI, 256, .inl g3)), (a4, .inl (cI, 18, .inl g4)), (kp, .inr (3, [.ref kb])), (kb, .inl (cB, n, .inl f))] sz)) (va_Qv (fun _ : Unit => True) (fun _ t => bfPost (dC, dI) [(kp, .inr (3, [.ref kb])), (h0, .inr (2, [.ref a0, .ref a1, .ref a2, .ref a3, .ref a4, .int 0, .ref kb])), (a0, .inl (cI, 256, .inl (fun k => (bf_sch bf_PI f n) (18 + k)))), (a1, .inl (cI, 256, .inl (fun k => (bf_sch bf_PI f n) (274 + k)))), (a2, .inl (cI, 256, .inl (fun k => (bf_sch bf_PI f n) (530 + k)))), (a3, .inl (cI, 256, .inl (fun k => (bf_sch bf_PI f n) (786 + k)))), (a4, .inl (cI, 18, .inl (bf_sch bf_PI f n))), (kb, .inl (cB, n, .inl f))] (va_A [(h0, .inr (2, [.ref a0, .ref a1, .ref a2, .ref a3, .ref a4, .int en, wk])), (a0, .inl (cI, 256, .inl g0)), (a1, .inl (cI, 256, .inl g1)), (a2, .inl (cI, 256, .inl g2)), (a3, .inl (cI, 256, .inl g3)), (a4, .inl (cI, 18, .inl g4)), (kp, .inr (3, [.ref kb])), (kb, .inl (cB, n, .inl f))] sz) t) (va_A [(h0, .inr (2, [.ref a0, .ref a1, .ref a2, .ref a3, .ref a4, .int en, wk])), (a0, .inl (cI, 256, .inl g0)), (a1, .inl (cI, 256, .inl g1)), (a2, .inl (cI, 256, .inl g2)), (a3, .inl (cI, 256, .inl g3)), (a4, .inl (cI, 18, .inl g4)), (kp, .inr (3, [.ref kb])), (kb, .inl (cB, n, .inl f))] sz)) 0 0 (va_A [(h0, .inr (2, [.ref a0, .ref a1, .ref a2, .ref a3, .ref a4, .int en, wk])), (a0, .inl (cI, 256, .inl g0)), (a1, .inl (cI, 256, .inl g1)), (a2, .inl (cI, 256, .inl g2)), (a3, .inl (cI, 256, .inl g3)), (a4, .inl (cI, 18, .inl g4)), (kp, .inr (3, [.ref kb])), (kb, .inl (cB, n, .inl f))] sz) := by
  refine Met.ofW (cc := cX2_init_2) (maxL := 3) (ret := none) (by decide) rfl ?_
  intro p e s m args below meth c s₁ hBo hml hv
  obtain ⟨rfl, ⟨hsz, hP, hK, hD0⟩, hX⟩ := hv
  have hx := hBo.exec
  have hb := hBo.bytes
  have hr := hBo.returns
  have hts := atoms_spec (ws := (ws_ yX2_init_2 cX2_init_2 3 none)) hBo.pre
  have hts : ∀ w ∈ lw_all, w.before _ s = true := fun w h => hts w (List.mem_cons_of_mem _ h)
  have hown : s.vm.findClass RX2 = some m.cls := findClass_of_methodNamed hBo.named
  have hlocks := hBo.notSynchronized
  subst hsz
  have hD := hD0.self (sz := s.heap.size)
  generalize hAe : va_A [(h0, .inr (2, [.ref a0, .ref a1, .ref a2, .ref a3, .ref a4, .int en, wk])), (a0, .inl (cI, 256, .inl g0)), (a1, .inl (cI, 256, .inl g1)), (a2, .inl (cI, 256, .inl g2)), (a3, .inl (cI, 256, .inl g3)), (a4, .inl (cI, 18, .inl g4)), (kp, .inr (3, [.ref kb])), (kb, .inl (cB, n, .inl f))] s.heap.size = A at hD ⊢ hX
  have hA : ∀ q : Nat, s.heap.size ≤ q → A q := fun q h => by rw [← hAe]; exact Or.inr h
  have hS : va_S A s.heap s.heap [] := va_S.rf
  have hl := lv_entry ([.ref h0, .int 0, .ref kp]) (n := 3) (Nat.le_of_ble_eq_true rfl)
  rw [lg_entry_eq]
  generalize (lg_sl ([.ref h0, .int 0, .ref kp]) ++ List.replicate (3 - (lg_sl ([.ref h0, .int 0, .ref kp])).length) Slot.unset).toArray = ls at hl ⊢
  have hl : lv_has ls 3 [(0, .ref h0), (1, .int 0), (2, .ref kp)] := hl
  refine lv_aload_n hx hb dX2_init_2_0 rfl (lv_at hl 2 rfl) ?_
  refine va_instS hx hb hown (hts _ q126) (hK.1 3 _ rfl).2 (va_recv hK hP (ci := 3) (q0 := 6) rfl rfl) dX2_init_2_1 ?_
  refine lv_if_eq (tgt := 32) hx hb dX2_init_2_4 (by decide) (fun h9 => absurd h9 (by decide)) (fun _ => ?_)
  refine lv_aload_n hx hb dX2_init_2_7 rfl (lv_at hl 0 rfl) ?_
  refine lv_iload_n hx hb dX2_init_2_8 rfl (lv_at hl 1 rfl) ?_
  refine va_put (D := (dC, dI)) (ci := 2) (v := .int 0) (ty := .boolean) (C := RX2) (T := TX2) (N := 7) hx hb hts in_X2 tyX2 tyX2_ok nmX2 hown hK hP hD hS 0 rfl rfl 5 (by decide) (hts _ q79) (fun _ h9 => h9) rfl (by decide +kernel) (by decide) (by decide) (Nat.le_of_ble_eq_true rfl) dX2_init_2_9 (fun H locs hP hD hS => ?_)
  have hP : va_P (dC, dI) vwCl [(h0, .inr (2, [.ref a0, .ref a1, .ref a2, .ref a3, .ref a4, .int 0, wk])), (a0, .inl (cI, 256, .inl g0)), (a1, .inl (cI, 256, .inl g1)), (a2, .inl (cI, 256, .inl g2)), (a3, .inl (cI, 256, .inl g3)), (a4, .inl (cI, 18, .inl g4)), (kp, .inr (3, [.ref kb])), (kb, .inl (cB, n, .inl f))] H := hP
  have hD : va_D A [(h0, .inr (2, [.ref a0, .ref a1, .ref a2, .ref a3, .ref a4, .int 0, wk])), (a0, .inl (cI, 256, .inl g0)), (a1, .inl (cI, 256, .inl g1)), (a2, .inl (cI, 256, .inl g2)), (a3, .inl (cI, 256, .inl g3)), (a4, .inl (cI, 18, .inl g4)), (kp, .inr (3, [.ref kb])), (kb, .inl (cB, n, .inl f))] := hD
  refine lv_aload_n hx hb dX2_init_2_12 rfl (lv_at hl 0 rfl) ?_
  refine lv_aload_n hx hb dX2_init_2_13 rfl (lv_at hl 2 rfl) ?_
  refine va_castS hx hb hown (hts _ q126) (hK.1 3 _ rfl).2 (va_recv hK hP (ci := 3) (q0 := 6) rfl rfl) dX2_init_2_14 ?_
  refine va_csr (va_Run.run (va_runV (As := []) (rest := [.ref h0]) ⟨hx, hb, hml, hown, hts⟩ (met_X3_getKey l dC dI cB cI kp kb) (cwV 0 hts (lw_V q127 q128 q129 q17 q130) rfl rfl rfl (by decide +kernel) ⟨Nat.le_of_ble_eq_true rfl, Nat.le_of_ble_eq_true rfl⟩) (bf_rdV hK hP [6] rfl (ci := 3) (q0 := 6) rfl rfl) rfl rfl hl.1 rfl (lv_room (Nat.le_of_ble_eq_true rfl)) dX2_init_2_17 ⟨Nat.le_of_ble_eq_true rfl, Nat.le_of_ble_eq_true rfl⟩)) (fun _ _ => ?_)
  refine va_put (D := (dC, dI)) (ci := 2) (v := .ref kb) (ty := .array .byte) (C := RX2) (T := TX2) (N := 7) hx hb hts in_X2 tyX2 tyX2_ok nmX2 hown hK hP hD hS 0 rfl rfl 6 (by decide) (hts _ q80) (fun _ h9 => h9) rfl (by decide +kernel) rfl rfl (Nat.le_of_ble_eq_true rfl) dX2_init_2_20 (fun H locs hP hD hS => ?_)
  have hP : va_P (dC, dI) vwCl [(h0, .inr (2, [.ref a0, .ref a1, .ref a2, .ref a3, .ref a4, .int 0, .ref kb])), (a0, .inl (cI, 256, .inl g0)), (a1, .inl (cI, 256, .inl g1)), (a2, .inl (cI, 256, .inl g2)), (a3, .inl (cI, 256, .inl g3)), (a4, .inl (cI, 18, .inl g4)), (kp, .inr (3, [.ref kb])), (kb, .inl (cB, n, .inl f))] H := hP
  have hD : va_D A [(h0, .inr (2, [.ref a0, .ref a1, .ref a2, .ref a3, .ref a4, .int 0, .ref kb])), (a0, .inl (cI, 256, .inl g0)), (a1, .inl (cI, 256, .inl g1)), (a2, .inl (cI, 256, .inl g2)), (a3, .inl (cI, 256, .inl g3)), (a4, .inl (cI, 18, .inl g4)), (kp, .inr (3, [.ref kb])), (kb, .inl (cB, n, .inl f))] := hD
  refine lv_aload_n hx hb dX2_init_2_23 rfl (lv_at hl 0 rfl) ?_
  refine lv_aload_n hx hb dX2_init_2_24 rfl (lv_at hl 0 rfl) ?_
  refine va_get (D := (dC, dI)) (ci := 2) (v := .ref kb) (C := RX2) (T := TX2) (N := 7) hx hb hts in_X2 hown hK hP 0 rfl rfl 6 (by decide) (hts _ q80) (fun _ h9 => h9) rfl dX2_init_2_25 ?_
  refine bf_callv (wr := [(kp, .inr (3, [.ref kb]))]) (va_runV (As := [.ref kb]) (rest := []) ⟨hx, hb, hml, hown, hts⟩ (met_X2_setKey l dC dI cB cI tS H.size h0 a0 a1 a2 a3 a4 kb n 0 (.ref kb) g0 g1 g2 g3 g4 f hn4 hn56) (cwV 1 hts (lw_V q131 q133 qs1 q16 q134) rfl rfl rfl (by decide +kernel) ⟨Nat.le_of_ble_eq_true rfl, Nat.le_of_ble_eq_true rfl⟩) (bf_preVX hK hP hD [0, 1, 2, 3, 4, 5, 7] (by decide) rfl (ci := 2) (q0 := 0) rfl rfl hX hS hA) rfl rfl hl.1 rfl (lv_room (Nat.le_of_ble_eq_true rfl)) dX2_init_2_28 ⟨Nat.le_of_ble_eq_true rfl, Nat.le_of_ble_eq_true rfl⟩) hP hD hS hA [0, 1, 2, 3, 4, 5, 7] [6] rfl rfl (by decide) (by decide) (fun _ H locs hP hD hS => ?_)
  have hP : va_P (dC, dI) vwCl [(kp, .inr (3, [.ref kb])), (h0, .inr (2, [.ref a0, .ref a1, .ref a2, .ref a3, .ref a4, .int 0, .ref kb])), (a0, .inl (cI, 256, .inl (fun k => (bf_sch bf_PI f n) (18 + k)))), (a1, .inl (cI, 256, .inl (fun k => (bf_sch bf_PI f n) (274 + k)))), (a2, .inl (cI, 256, .inl (fun k => (bf_sch bf_PI f n) (530 + k)))), (a3, .inl (cI, 256, .inl (fun k => (bf_sch bf_PI f n) (786 + k)))), (a4, .inl (cI, 18, .inl (bf_sch bf_PI f n))), (kb, .inl (cB, n, .inl f))] H := hP
  have hD : va_D A [(kp, .inr (3, [.ref kb])), (h0, .inr (2, [.ref a0, .ref a1, .ref a2, .ref a3, .ref a4, .int 0, .ref kb])), (a0, .inl (cI, 256, .inl (fun k => (bf_sch bf_PI f n) (18 + k)))), (a1, .inl (cI, 256, .inl (fun k => (bf_sch bf_PI f n) (274 + k)))), (a2, .inl (cI, 256, .inl (fun k => (bf_sch bf_PI f n) (530 + k)))), (a3, .inl (cI, 256, .inl (fun k => (bf_sch bf_PI f n) (786 + k)))), (a4, .inl (cI, 18, .inl (bf_sch bf_PI f n))), (kb, .inl (cB, n, .inl f))] := hD
  exact W.vret hx hb hr (fun t ht hW => ⟨⟨(), rfl, trivial, by rw [ht]; exact hP, hD⟩, hS.F ht⟩) hS.2.2 dX2_init_2_31
end
section
/-! BlowfishDesk -/
/-- where the key's half begins -/
def bf_at (x : Int32) : Nat := x.toBitVec.toNat % 2 ^ 1 * 2 ^ 4
theorem bf_at_le (x : Int32) : bf_at x ≤ 16 := by
  unfold bf_at
  omega
theorem bf_by_b (x : Int32) (j : Nat) : (bf_by x j).toInt8.toInt32 = bf_by x j := bf_bb _
theorem bf_n_ge (x : Int32) : 8 ≤ bf_n x := by
  unfold bf_n
  omega
theorem bf_n_le (x : Int32) : bf_n x ≤ 24 := by
  unfold bf_n
  omega
theorem bf_n_3 (x : Int32) : bf_n (nI (x.toBitVec.toNat % 2 ^ 2)) = bf_n x := by
  unfold bf_n
  rw [pk_tn (by omega)]
  omega
theorem bf_r3 (x : Int32) : nI (x.toBitVec.toNat % 2 ^ 2) - nI (x.toBitVec.toNat % 2 ^ 2) / 3 * 3 = nI (x.toBitVec.toNat % 4 % 3) := pk_rem (a := x.toBitVec.toNat % 2 ^ 2) (d := 3) (by omega) (by decide) (by decide)
/-- the key after a half of it is laid -/
def bf_key (f : Nat → Int32) (x w1 w2 w3 w4 : Int32) : Nat → Int32 := bf_put (bf_put (bf_put (bf_put f (bf_at x) w1) (bf_at x + 4) w2) (bf_at x + 8) w3) (bf_at x + 12) w4
set_option maxHeartbeats 4000000 in
set_option maxRecDepth 100000 in
/-- word(to, k, x) -/
theorem met_X0_word (l : Launch) (dC : Nat → ClassId) (dI : Nat → Nat → Nat) (cB cI : ClassId) (sz : Nat) (ba n k : Nat) (x : Int32) (f : Nat → Int32) (hk : k + 4 ≤ n) (hn : n < 2 ^ 31) : Met l yX0_word (ws_ yX0_word cX0_word 3 none) ({ frames := 0, cells := 0, slots := 0, locals := 0 }) (va_Pc [.ref ba, .int (nI k), .int x] (bfPre (dC, dI) cB cI [(ba, .inl (cB, n, .inl f))] sz)) (va_Qv (fun _ : Unit => True) (fun _ t => bfPost (dC, dI) [(ba, .inl (cB, n, .inl (bf_put f k x)))] (va_A [(ba, .inl (cB, n, .inl f))] sz) t) (va_A [(ba, .inl (cB, n, .inl f))] sz)) 0 0 (va_A [(ba, .inl (cB, n, .inl f))] sz) := by
  refine Met.ofW (cc := cX0_word) (maxL := 3) (ret := none) (by decide) rfl ?_
  intro p e s m args below meth c s₁ hBo hml hv
  obtain ⟨rfl, hsz, hP, hK, hD0⟩ := hv
  have hx := hBo.exec
  have hb := hBo.bytes
  have hr := hBo.returns
  have hts := atoms_spec (ws := (ws_ yX0_word cX0_word 3 none)) hBo.pre
  have hts : ∀ w ∈ lw_all, w.before _ s = true := fun w h => hts w (List.mem_cons_of_mem _ h)
  have hown : s.vm.findClass RX0 = some m.cls := findClass_of_methodNamed hBo.named
  have hlocks := hBo.notSynchronized
  subst hsz
  have hD := hD0.self (sz := s.heap.size)
  generalize hAe : va_A [(ba, .inl (cB, n, .inl f))] s.heap.size = A at hD ⊢
  have hA : ∀ q : Nat, s.heap.size ≤ q → A q := fun q h => by rw [← hAe]; exact Or.inr h
  have hS : va_S A s.heap s.heap [] := va_S.rf
  have hl := lv_entry ([.ref ba, .int (nI k), .int x]) (n := 3) (Nat.le_of_ble_eq_true rfl)
  rw [lg_entry_eq]
  generalize (lg_sl ([.ref ba, .int (nI k), .int x]) ++ List.replicate (3 - (lg_sl ([.ref ba, .int (nI k), .int x])).length) Slot.unset).toArray = ls at hl ⊢
  have hl : lv_has ls 3 [(0, .ref ba), (1, .int (nI k)), (2, .int x)] := hl
  refine lv_aload_n hx hb dX0_word_0 rfl (lv_at hl 0 rfl) ?_
  refine lv_iload_n hx hb dX0_word_1 rfl (lv_at hl 1 rfl) ?_
  refine lv_iload_n hx hb dX0_word_2 rfl (lv_at hl 2 rfl) ?_
  refine lv_bipush (v := 24) hx hb dX0_word_3 (by decide) ?_
  refine lv_ishr hx hb dX0_word_5 ?_
  refine lv_i2b (v := ((x >>> (24 &&& 31))).toInt8.toInt32) hx hb dX0_word_6 rfl ?_
  refine bf_bast hx hb hK hP hD hS 0 0 rfl rfl dX0_word_7 k rfl (by omega) hn (bf_by x 0) (by rw [bf_bb]; exact bf_by0 x) (fun H locs hP hD hS => ?_)
  have hP : va_P (dC, dI) vwCl [(ba, .inl (cB, n, .inl (upd f k (bf_by x 0))))] H := hP
  have hD : va_D A [(ba, .inl (cB, n, .inl (upd f k (bf_by x 0))))] := hD
  refine lv_aload_n hx hb dX0_word_8 rfl (lv_at hl 0 rfl) ?_
  refine lv_iload_n hx hb dX0_word_9 rfl (lv_at hl 1 rfl) ?_
  refine lv_iconst (v := 1) hx hb dX0_word_10 (by decide) ?_
  refine lv_iadd hx hb dX0_word_11 ?_
  refine lv_iload_n hx hb dX0_word_12 rfl (lv_at hl 2 rfl) ?_
  refine lv_bipush (v := 16) hx hb dX0_word_13 (by decide) ?_
  refine lv_ishr hx hb dX0_word_15 ?_
  refine lv_i2b (v := ((x >>> (16 &&& 31))).toInt8.toInt32) hx hb dX0_word_16 rfl ?_
  refine bf_bast hx hb hK hP hD hS 0 0 rfl rfl dX0_word_17 (k + 1) (nI_add k 1) (by omega) hn (bf_by x 1) (by rw [bf_bb]; exact bf_by1 x) (fun H locs hP hD hS => ?_)
  have hP : va_P (dC, dI) vwCl [(ba, .inl (cB, n, .inl (upd (upd f k (bf_by x 0)) (k + 1) (bf_by x 1))))] H := hP
  have hD : va_D A [(ba, .inl (cB, n, .inl (upd (upd f k (bf_by x 0)) (k + 1) (bf_by x 1))))] := hD
  refine lv_aload_n hx hb dX0_word_18 rfl (lv_at hl 0 rfl) ?_
  refine lv_iload_n hx hb dX0_word_19 rfl (lv_at hl 1 rfl) ?_
  refine lv_iconst (v := 2) hx hb dX0_word_20 (by decide) ?_
  refine lv_iadd hx hb dX0_word_21 ?_
  refine lv_iload_n hx hb dX0_word_22 rfl (lv_at hl 2 rfl) ?_
  refine lv_bipush (v := 8) hx hb dX0_word_23 (by decide) ?_
  refine lv_ishr hx hb dX0_word_25 ?_
  refine lv_i2b (v := ((x >>> (8 &&& 31))).toInt8.toInt32) hx hb dX0_word_26 rfl ?_
  refine bf_bast hx hb hK hP hD hS 0 0 rfl rfl dX0_word_27 (k + 2) (nI_add k 2) (by omega) hn (bf_by x 2) (by rw [bf_bb]; exact bf_by2 x) (fun H locs hP hD hS => ?_)
  have hP : va_P (dC, dI) vwCl [(ba, .inl (cB, n, .inl (upd (upd (upd f k (bf_by x 0)) (k + 1) (bf_by x 1)) (k + 2) (bf_by x 2))))] H := hP
  have hD : va_D A [(ba, .inl (cB, n, .inl (upd (upd (upd f k (bf_by x 0)) (k + 1) (bf_by x 1)) (k + 2) (bf_by x 2))))] := hD
  refine lv_aload_n hx hb dX0_word_28 rfl (lv_at hl 0 rfl) ?_
  refine lv_iload_n hx hb dX0_word_29 rfl (lv_at hl 1 rfl) ?_
  refine lv_iconst (v := 3) hx hb dX0_word_30 (by decide) ?_
  refine lv_iadd hx hb dX0_word_31 ?_
  refine lv_iload_n hx hb dX0_word_32 rfl (lv_at hl 2 rfl) ?_
  refine lv_i2b (v := (x).toInt8.toInt32) hx hb dX0_word_33 rfl ?_
  refine bf_bast hx hb hK hP hD hS 0 0 rfl rfl dX0_word_34 (k + 3) (nI_add k 3) (by omega) hn (bf_by x 3) (by rw [bf_bb]; exact bf_by3 x) (fun H locs hP hD hS => ?_)
  have hP : va_P (dC, dI) vwCl [(ba, .inl (cB, n, .inl (upd (upd (upd (upd f k (bf_by x 0)) (k + 1) (bf_by x 1)) (k + 2) (bf_by x 2)) (k + 3) (bf_by x 3))))] H := hP
  have hD : va_D A [(ba, .inl (cB, n, .inl (upd (upd (upd (upd f k (bf_by x 0)) (k + 1) (bf_by x 1)) (k + 2) (bf_by x 2)) (k + 3) (bf_by x 3))))] := hD
  rw [bf_put_fwd] at hP
  have hD := bf_D.re (ws' := [(ba, .inl (cB, n, .inl (bf_put f k x)))]) hD [ba] rfl rfl
  exact W.vret hx hb hr (fun t ht hW => ⟨⟨(), rfl, trivial, by rw [ht]; exact hP, hD⟩, hS.F ht⟩) hS.2.2 dX0_word_35
set_option maxHeartbeats 4000000 in
set_option maxRecDepth 100000 in
/-- BlowfishDesk(): three new arrays -/
theorem met_X0_init (l : Launch) (dC : Nat → ClassId) (dI : Nat → Nat → Nat) (cB cI : ClassId) (sz : Nat) (h0 : Nat) : Met l yX0_init (ws_ yX0_init cX0_init 1 none) ({ frames := 1, cells := 3, slots := 48, locals := 12 }) (va_Pc [.ref h0] (bfPre (dC, dI) cB cI [(h0, .inr (0, [.null, .null, .null]))] sz)) (va_Qv (fun _ : Nat × Nat × Nat => True) (fun u t => bfPost (dC, dI) [(h0, .inr (0, [.ref u.1, .ref u.2.1, .ref u.2.2])), (u.1, .inl (cB, 32, .inl (fun _ => 0))), (u.2.1, .inl (cB, 8, .inl (fun _ => 0))), (u.2.2, .inl (cB, 8, .inl (fun _ => 0)))] (va_A [(h0, .inr (0, [.null, .null, .null]))] sz) t) (va_A [(h0, .inr (0, [.null, .null, .null]))] sz)) 3 48 (va_A [(h0, .inr (0, [.null, .null, .null]))] sz) := by
  refine Met.ofW (cc := cX0_init) (maxL := 1) (ret := none) (by decide) rfl ?_
  intro p e s m args below meth c s₁ hBo hml hv
  obtain ⟨rfl, hsz, hP, hK, hD0⟩ := hv
  have hx := hBo.exec
  have hb := hBo.bytes
  have hr := hBo.returns
  have hts := atoms_spec (ws := (ws_ yX0_init cX0_init 1 none)) hBo.pre
  have hts : ∀ w ∈ lw_all, w.before _ s = true := fun w h => hts w (List.mem_cons_of_mem _ h)
  have hown : s.vm.findClass RX0 = some m.cls := findClass_of_methodNamed hBo.named
  have hlocks := hBo.notSynchronized
  have hin : meth.name = "<init>" := (name_of_methodNamed hBo.named hBo.method).1
  subst hsz
  have hD := hD0.self (sz := s.heap.size)
  generalize hAe : va_A [(h0, .inr (0, [.null, .null, .null]))] s.heap.size = A at hD ⊢
  have hA : ∀ q : Nat, s.heap.size ≤ q → A q := fun q h => by rw [← hAe]; exact Or.inr h
  have hS : va_S A s.heap s.heap [] := va_S.rf
  have hl := lv_entry ([.ref h0]) (n := 1) (Nat.le_of_ble_eq_true rfl)
  rw [lg_entry_eq]
  generalize (lg_sl ([.ref h0]) ++ List.replicate (1 - (lg_sl ([.ref h0])).length) Slot.unset).toArray = ls at hl ⊢
  have hl : lv_has ls 1 [(0, .ref h0)] := hl
  refine lv_aload_n hx hb dX0_init_0 rfl (lv_at hl 0 rfl) ?_
  refine W.objInit hx hb hown (hts _ q32) (hts _ q33) (hts _ q34) rfl (by rw [hml]; exact hl.1) rfl dX0_init_1 (Nat.le_of_ble_eq_true rfl) (Nat.le_of_ble_eq_true rfl) ?_
  refine W.eq (g2 := F0 m 4 ls []) rfl ?_
  refine lv_aload_n hx hb dX0_init_4 rfl (lv_at hl 0 rfl) ?_
  refine lv_bipush (v := 32) hx hb dX0_init_5 (by decide) ?_
  refine bf_newa (atype := .byte) hx hb (hts _ q45) rfl hK 0 rfl (fun z z' h h' => Option.some.inj (h.symm.trans h')) hP hD hS hA dX0_init_7 32 rfl (Nat.le_of_ble_eq_true rfl) (32, .inl (fun _ => 0)) (fun _ => rfl) (Nat.le_of_ble_eq_true rfl) (Nat.le_of_ble_eq_true rfl) (Nat.le_of_ble_eq_true rfl) (fun k0 H hP hD hS => ?_)
  have hP : va_P (dC, dI) vwCl [(h0, .inr (0, [.null, .null, .null])), (k0, .inl (cB, 32, .inl (fun _ => 0)))] H := hP
  have hD : va_D A [(h0, .inr (0, [.null, .null, .null])), (k0, .inl (cB, 32, .inl (fun _ => 0)))] := hD
  refine va_putF (D := (dC, dI)) (ci := 0) (v := .ref k0) (ty := .array .byte) (C := RX0) (T := TX0) (N := 3) hx hb hts in_X0 tyX0 tyX0_ok nmX0 hown hK hP hD hS 0 rfl rfl 0 (by decide) (hts _ q35) (fun _ h9 => h9) rfl hin rfl (by decide +kernel) rfl rfl (Nat.le_of_ble_eq_true rfl) dX0_init_9 (fun H locs hP hD hS => ?_)
  have hP : va_P (dC, dI) vwCl [(h0, .inr (0, [.ref k0, .null, .null])), (k0, .inl (cB, 32, .inl (fun _ => 0)))] H := hP
  have hD : va_D A [(h0, .inr (0, [.ref k0, .null, .null])), (k0, .inl (cB, 32, .inl (fun _ => 0)))] := hD
  refine lv_aload_n hx hb dX0_init_12 rfl (lv_at hl 0 rfl) ?_
  refine lv_bipush (v := 8) hx hb dX0_init_13 (by decide) ?_
  refine bf_newa (atype := .byte) hx hb (hts _ q45) rfl hK 0 rfl (fun z z' h h' => Option.some.inj (h.symm.trans h')) hP hD hS hA dX0_init_15 8 rfl (Nat.le_of_ble_eq_true rfl) (8, .inl (fun _ => 0)) (fun _ => rfl) (Nat.le_of_ble_eq_true rfl) (Nat.le_of_ble_eq_true rfl) (Nat.le_of_ble_eq_true rfl) (fun b0 H hP hD hS => ?_)
  have hP : va_P (dC, dI) vwCl [(h0, .inr (0, [.ref k0, .null, .null])), (k0, .inl (cB, 32, .inl (fun _ => 0))), (b0, .inl (cB, 8, .inl (fun _ => 0)))] H := hP
  have hD : va_D A [(h0, .inr (0, [.ref k0, .null, .null])), (k0, .inl (cB, 32, .inl (fun _ => 0))), (b0, .inl (cB, 8, .inl (fun _ => 0)))] := hD
  refine va_putF (D := (dC, dI)) (ci := 0) (v := .ref b0) (ty := .array .byte) (C := RX0) (T := TX0) (N := 3) hx hb hts in_X0 tyX0 tyX0_ok nmX0 hown hK hP hD hS 0 rfl rfl 1 (by decide) (hts _ q36) (fun _ h9 => h9) rfl hin rfl (by decide +kernel) rfl rfl (Nat.le_of_ble_eq_true rfl) dX0_init_17 (fun H locs hP hD hS => ?_)
  have hP : va_P (dC, dI) vwCl [(h0, .inr (0, [.ref k0, .ref b0, .null])), (k0, .inl (cB, 32, .inl (fun _ => 0))), (b0, .inl (cB, 8, .inl (fun _ => 0)))] H := hP
  have hD : va_D A [(h0, .inr (0, [.ref k0, .ref b0, .null])), (k0, .inl (cB, 32, .inl (fun _ => 0))), (b0, .inl (cB, 8, .inl (fun _ => 0)))] := hD
  refine lv_aload_n hx hb dX0_init_20 rfl (lv_at hl 0 rfl) ?_
  refine lv_bipush (v := 8) hx hb dX0_init_21 (by decide) ?_
  refine bf_newa (atype := .byte) hx hb (hts _ q45) rfl hK 0 rfl (fun z z' h h' => Option.some.inj (h.symm.trans h')) hP hD hS hA dX0_init_23 8 rfl (Nat.le_of_ble_eq_true rfl) (8, .inl (fun _ => 0)) (fun _ => rfl) (Nat.le_of_ble_eq_true rfl) (Nat.le_of_ble_eq_true rfl) (Nat.le_of_ble_eq_true rfl) (fun o0 H hP hD hS => ?_)
  have hP : va_P (dC, dI) vwCl [(h0, .inr (0, [.ref k0, .ref b0, .null])), (k0, .inl (cB, 32, .inl (fun _ => 0))), (b0, .inl (cB, 8, .inl (fun _ => 0))), (o0, .inl (cB, 8, .inl (fun _ => 0)))] H := hP
  have hD : va_D A [(h0, .inr (0, [.ref k0, .ref b0, .null])), (k0, .inl (cB, 32, .inl (fun _ => 0))), (b0, .inl (cB, 8, .inl (fun _ => 0))), (o0, .inl (cB, 8, .inl (fun _ => 0)))] := hD
  refine va_putF (D := (dC, dI)) (ci := 0) (v := .ref o0) (ty := .array .byte) (C := RX0) (T := TX0) (N := 3) hx hb hts in_X0 tyX0 tyX0_ok nmX0 hown hK hP hD hS 0 rfl rfl 2 (by decide) (hts _ q37) (fun _ h9 => h9) rfl hin rfl (by decide +kernel) rfl rfl (Nat.le_of_ble_eq_true rfl) dX0_init_25 (fun H locs hP hD hS => ?_)
  have hP : va_P (dC, dI) vwCl [(h0, .inr (0, [.ref k0, .ref b0, .ref o0])), (k0, .inl (cB, 32, .inl (fun _ => 0))), (b0, .inl (cB, 8, .inl (fun _ => 0))), (o0, .inl (cB, 8, .inl (fun _ => 0)))] H := hP
  have hD : va_D A [(h0, .inr (0, [.ref k0, .ref b0, .ref o0])), (k0, .inl (cB, 32, .inl (fun _ => 0))), (b0, .inl (cB, 8, .inl (fun _ => 0))), (o0, .inl (cB, 8, .inl (fun _ => 0)))] := hD
  exact W.vret hx hb hr (fun t ht hW => ⟨⟨(k0, b0, o0), rfl, trivial, by rw [ht]; exact hP, hD⟩, hS.F ht⟩) hS.2.2 dX0_init_28
set_option maxHeartbeats 4000000 in
set_option maxRecDepth 100000 in
/-- key(half, ..) -/
theorem met_X0_key (l : Launch) (dC : Nat → ClassId) (dI : Nat → Nat → Nat) (cB cI : ClassId) (sz : Nat) (h0 k0 b0 o0 : Nat) (K B O : Nat → Int32) (x w1 w2 w3 w4 : Int32) : Met l yX0_key (ws_ yX0_key cX0_key 7 none) ({ frames := 1, cells := 0, slots := 0, locals := 22 }) (va_Pc [.ref h0, .int x, .int w1, .int w2, .int w3, .int w4] (bfPre (dC, dI) cB cI [(h0, .inr (0, [.ref k0, .ref b0, .ref o0])), (k0, .inl (cB, 32, .inl K))] sz)) (va_Qv (fun _ : Unit => True) (fun _ t => bfPost (dC, dI) [(h0, .inr (0, [.ref k0, .ref b0, .ref o0])), (k0, .inl (cB, 32, .inl (bf_key K x w1 w2 w3 w4)))] (va_A [(h0, .inr (0, [.ref k0, .ref b0, .ref o0])), (k0, .inl (cB, 32, .inl K))] sz) t) (va_A [(h0, .inr (0, [.ref k0, .ref b0, .ref o0])), (k0, .inl (cB, 32, .inl K))] sz)) 0 0 (va_A [(h0, .inr (0, [.ref k0, .ref b0, .ref o0])), (k0, .inl (cB, 32, .inl K))] sz) := by
  refine Met.ofW (cc := cX0_key) (maxL := 7) (ret := none) (by decide) rfl ?_
  intro p e s m args below meth c s₁ hBo hml hv
  obtain ⟨rfl, hsz, hP, hK, hD0⟩ := hv
  have hx := hBo.exec
  have hb := hBo.bytes
  have hr := hBo.returns
  have hts := atoms_spec (ws := (ws_ yX0_key cX0_key 7 none)) hBo.pre
  have hts : ∀ w ∈ lw_all, w.before _ s = true := fun w h => hts w (List.mem_cons_of_mem _ h)
  have hown : s.vm.findClass RX0 = some m.cls := findClass_of_methodNamed hBo.named
  have hlocks := hBo.notSynchronized
  subst hsz
  have hD := hD0.self (sz := s.heap.size)
  generalize hAe : va_A [(h0, .inr (0, [.ref k0, .ref b0, .ref o0])), (k0, .inl (cB, 32, .inl K))] s.heap.size = A at hD ⊢
  have hA : ∀ q : Nat, s.heap.size ≤ q → A q := fun q h => by rw [← hAe]; exact Or.inr h
  have hS : va_S A s.heap s.heap [] := va_S.rf
  have hl := lv_entry ([.ref h0, .int x, .int w1, .int w2, .int w3, .int w4]) (n := 7) (Nat.le_of_ble_eq_true rfl)
  rw [lg_entry_eq]
  generalize (lg_sl ([.ref h0, .int x, .int w1, .int w2, .int w3, .int w4]) ++ List.replicate (7 - (lg_sl ([.ref h0, .int x, .int w1, .int w2, .int w3, .int w4])).length) Slot.unset).toArray = ls at hl ⊢
  have hl : lv_has ls 7 [(0, .ref h0), (1, .int x), (2, .int w1), (3, .int w2), (4, .int w3), (5, .int w4)] := hl
  have hat := bf_at_le x
  refine lv_iload_n hx hb dX0_key_0 rfl (lv_at hl 1 rfl) ?_
  refine lv_iconst (v := 1) hx hb dX0_key_1 (by decide) ?_
  refine lv_iand hx hb dX0_key_2 ?_
  refine bf_topE (y := nI (x.toBitVec.toNat % 2 ^ 1)) (pk_and x 1 (by decide)) ?_
  refine lv_iconst (v := 4) hx hb dX0_key_3 (by decide) ?_
  refine lv_ishl hx hb dX0_key_4 ?_
  refine bf_topE (y := nI (bf_at x)) (pk_shlN _ 4 (by decide) (by omega)) ?_
  refine lv_istore (lv' := [(6, .int (nI (bf_at x))), (0, .ref h0), (1, .int x), (2, .int w1), (3, .int w2), (4, .int w3), (5, .int w4)]) hx hb dX0_key_5 hl (by decide) rfl (fun ls hl => ?_)
  refine lv_aload_n hx hb dX0_key_7 rfl (lv_at hl 1 rfl) ?_
  refine va_get (D := (dC, dI)) (ci := 0) (v := .ref k0) (C := RX0) (T := TX0) (N := 3) hx hb hts in_X0 hown hK hP 0 rfl rfl 0 (by decide) (hts _ q35) (fun _ h9 => h9) rfl dX0_key_8 ?_
  refine lv_iload hx hb dX0_key_11 (lv_at hl 0 rfl) ?_
  refine lv_iload_n hx hb dX0_key_13 rfl (lv_at hl 3 rfl) ?_
  refine bf_callv (wr := [(h0, .inr (0, [.ref k0, .ref b0, .ref o0]))]) (va_runS (As := [.ref k0, .int (nI (bf_at x)), .int w1]) (rest := []) ⟨hx, hb, hml, hown, hts⟩ (met_X0_word l dC dI cB cI s.heap.size k0 32 (bf_at x) w1 K (by omega) (Nat.le_of_ble_eq_true rfl)) (va_cwS 3 hts (lw_S q50 q51 q14 q52) rfl rfl rfl (by decide +kernel) ⟨Nat.le_of_ble_eq_true rfl, Nat.le_of_ble_eq_true rfl⟩) (bf_preS hK hP hD [1] (by decide) rfl) rfl rfl hl.1 rfl (lv_room (Nat.le_of_ble_eq_true rfl)) dX0_key_14 ⟨Nat.le_of_ble_eq_true rfl, Nat.le_of_ble_eq_true rfl⟩) hP hD hS hA [1] [0] rfl rfl (by decide) (by decide) (fun _ H locs hP hD hS => ?_)
  have hP : va_P (dC, dI) vwCl [(h0, .inr (0, [.ref k0, .ref b0, .ref o0])), (k0, .inl (cB, 32, .inl (bf_put K (bf_at x) w1)))] H := hP
  have hD : va_D A [(h0, .inr (0, [.ref k0, .ref b0, .ref o0])), (k0, .inl (cB, 32, .inl (bf_put K (bf_at x) w1)))] := hD
  refine lv_aload_n hx hb dX0_key_17 rfl (lv_at hl 1 rfl) ?_
  refine va_get (D := (dC, dI)) (ci := 0) (v := .ref k0) (C := RX0) (T := TX0) (N := 3) hx hb hts in_X0 hown hK hP 0 rfl rfl 0 (by decide) (hts _ q35) (fun _ h9 => h9) rfl dX0_key_18 ?_
  refine lv_iload hx hb dX0_key_21 (lv_at hl 0 rfl) ?_
  refine lv_iconst (v := 4) hx hb dX0_key_23 (by decide) ?_
  refine lv_iadd hx hb dX0_key_24 ?_
  refine bf_topE (y := nI (bf_at x + 4)) (nI_add _ 4) ?_
  refine lv_iload_n hx hb dX0_key_25 rfl (lv_at hl 4 rfl) ?_
  refine bf_callv (wr := [(h0, .inr (0, [.ref k0, .ref b0, .ref o0]))]) (va_runS (As := [.ref k0, .int (nI (bf_at x + 4)), .int w2]) (rest := []) ⟨hx, hb, hml, hown, hts⟩ (met_X0_word l dC dI cB cI H.size k0 32 (bf_at x + 4) w2 (bf_put K (bf_at x) w1) (by omega) (Nat.le_of_ble_eq_true rfl)) (va_cwS 3 hts (lw_S q50 q51 q14 q52) rfl rfl rfl (by decide +kernel) ⟨Nat.le_of_ble_eq_true rfl, Nat.le_of_ble_eq_true rfl⟩) (bf_preS hK hP hD [1] (by decide) rfl) rfl rfl hl.1 rfl (lv_room (Nat.le_of_ble_eq_true rfl)) dX0_key_26 ⟨Nat.le_of_ble_eq_true rfl, Nat.le_of_ble_eq_true rfl⟩) hP hD hS hA [1] [0] rfl rfl (by decide) (by decide) (fun _ H locs hP hD hS => ?_)
  have hP : va_P (dC, dI) vwCl [(h0, .inr (0, [.ref k0, .ref b0, .ref o0])), (k0, .inl (cB, 32, .inl (bf_put (bf_put K (bf_at x) w1) (bf_at x + 4) w2)))] H := hP
  have hD : va_D A [(h0, .inr (0, [.ref k0, .ref b0, .ref o0])), (k0, .inl (cB, 32, .inl (bf_put (bf_put K (bf_at x) w1) (bf_at x + 4) w2)))] := hD
  refine lv_aload_n hx hb dX0_key_29 rfl (lv_at hl 1 rfl) ?_
  refine va_get (D := (dC, dI)) (ci := 0) (v := .ref k0) (C := RX0) (T := TX0) (N := 3) hx hb hts in_X0 hown hK hP 0 rfl rfl 0 (by decide) (hts _ q35) (fun _ h9 => h9) rfl dX0_key_30 ?_
  refine lv_iload hx hb dX0_key_33 (lv_at hl 0 rfl) ?_
  refine lv_bipush (v := 8) hx hb dX0_key_35 (by decide) ?_
  refine lv_iadd hx hb dX0_key_37 ?_
  refine bf_topE (y := nI (bf_at x + 8)) (nI_add _ 8) ?_
  refine lv_iload hx hb dX0_key_38 (lv_at hl 5 rfl) ?_
  refine bf_callv (wr := [(h0, .inr (0, [.ref k0, .ref b0, .ref o0]))]) (va_runS (As := [.ref k0, .int (nI (bf_at x + 8)), .int w3]) (rest := []) ⟨hx, hb, hml, hown, hts⟩ (met_X0_word l dC dI cB cI H.size k0 32 (bf_at x + 8) w3 (bf_put (bf_put K (bf_at x) w1) (bf_at x + 4) w2) (by omega) (Nat.le_of_ble_eq_true rfl)) (va_cwS 3 hts (lw_S q50 q51 q14 q52) rfl rfl rfl (by decide +kernel) ⟨Nat.le_of_ble_eq_true rfl, Nat.le_of_ble_eq_true rfl⟩) (bf_preS hK hP hD [1] (by decide) rfl) rfl rfl hl.1 rfl (lv_room (Nat.le_of_ble_eq_true rfl)) dX0_key_40 ⟨Nat.le_of_ble_eq_true rfl, Nat.le_of_ble_eq_true rfl⟩) hP hD hS hA [1] [0] rfl rfl (by decide) (by decide) (fun _ H locs hP hD hS => ?_)
  have hP : va_P (dC, dI) vwCl [(h0, .inr (0, [.ref k0, .ref b0, .ref o0])), (k0, .inl (cB, 32, .inl (bf_put (bf_put (bf_put K (bf_at x) w1) (bf_at x + 4) w2) (bf_at x + 8) w3)))] H := hP
  have hD : va_D A [(h0, .inr (0, [.ref k0, .ref b0, .ref o0])), (k0, .inl (cB, 32, .inl (bf_put (bf_put (bf_put K (bf_at x) w1) (bf_at x + 4) w2) (bf_at x + 8) w3)))] := hD
  refine lv_aload_n hx hb dX0_key_43 rfl (lv_at hl 1 rfl) ?_
  refine va_get (D := (dC, dI)) (ci := 0) (v := .ref k0) (C := RX0) (T := TX0) (N := 3) hx hb hts in_X0 hown hK hP 0 rfl rfl 0 (by decide) (hts _ q35) (fun _ h9 => h9) rfl dX0_key_44 ?_
  refine lv_iload hx hb dX0_key_47 (lv_at hl 0 rfl) ?_
  refine lv_bipush (v := 12) hx hb dX0_key_49 (by decide) ?_
  refine lv_iadd hx hb dX0_key_51 ?_
  refine bf_topE (y := nI (bf_at x + 12)) (nI_add _ 12) ?_
  refine lv_iload hx hb dX0_key_52 (lv_at hl 6 rfl) ?_
  refine bf_callv (wr := [(h0, .inr (0, [.ref k0, .ref b0, .ref o0]))]) (va_runS (As := [.ref k0, .int (nI (bf_at x + 12)), .int w4]) (rest := []) ⟨hx, hb, hml, hown, hts⟩ (met_X0_word l dC dI cB cI H.size k0 32 (bf_at x + 12) w4 (bf_put (bf_put (bf_put K (bf_at x) w1) (bf_at x + 4) w2) (bf_at x + 8) w3) (by omega) (Nat.le_of_ble_eq_true rfl)) (va_cwS 3 hts (lw_S q50 q51 q14 q52) rfl rfl rfl (by decide +kernel) ⟨Nat.le_of_ble_eq_true rfl, Nat.le_of_ble_eq_true rfl⟩) (bf_preS hK hP hD [1] (by decide) rfl) rfl rfl hl.1 rfl (lv_room (Nat.le_of_ble_eq_true rfl)) dX0_key_54 ⟨Nat.le_of_ble_eq_true rfl, Nat.le_of_ble_eq_true rfl⟩) hP hD hS hA [1] [0] rfl rfl (by decide) (by decide) (fun _ H locs hP hD hS => ?_)
  have hP : va_P (dC, dI) vwCl [(h0, .inr (0, [.ref k0, .ref b0, .ref o0])), (k0, .inl (cB, 32, .inl (bf_put (bf_put (bf_put (bf_put K (bf_at x) w1) (bf_at x + 4) w2) (bf_at x + 8) w3) (bf_at x + 12) w4)))] H := hP
  have hD : va_D A [(h0, .inr (0, [.ref k0, .ref b0, .ref o0])), (k0, .inl (cB, 32, .inl (bf_put (bf_put (bf_put (bf_put K (bf_at x) w1) (bf_at x + 4) w2) (bf_at x + 8) w3) (bf_at x + 12) w4)))] := hD
  exact W.vret hx hb hr (fun t ht hW => ⟨⟨(), rfl, trivial, by rw [ht]; exact hP, hD⟩, hS.F ht⟩) hS.2.2 dX0_key_57
set_option maxHeartbeats 4000000 in
set_option maxRecDepth 100000 in
/-- block(..) -/
theorem met_X0_block (l : Launch) (dC : Nat → ClassId) (dI : Nat → Nat → Nat) (cB cI : ClassId) (sz : Nat) (h0 k0 b0 o0 : Nat) (K B O : Nat → Int32) (w1 w2 : Int32) : Met l yX0_block (ws_ yX0_block cX0_block 3 none) ({ frames := 1, cells := 0, slots := 0, locals := 22 }) (va_Pc [.ref h0, .int w1, .int w2] (bfPre (dC, dI) cB cI [(h0, .inr (0, [.ref k0, .ref b0, .ref o0])), (b0, .inl (cB, 8, .inl B))] sz)) (va_Qv (fun _ : Unit => True) (fun _ t => bfPost (dC, dI) [(h0, .inr (0, [.ref k0, .ref b0, .ref o0])), (b0, .inl (cB, 8, .inl (bf_put (bf_put B 0 w1) 4 w2)))] (va_A [(h0, .inr (0, [.ref k0, .ref b0, .ref o0])), (b0, .inl (cB, 8, .inl B))] sz) t) (va_A [(h0, .inr (0, [.ref k0, .ref b0, .ref o0])), (b0, .inl (cB, 8, .inl B))] sz)) 0 0 (va_A [(h0, .inr (0, [.ref k0, .ref b0, .ref o0])), (b0, .inl (cB, 8, .inl B))] sz) := by
  refine Met.ofW (cc := cX0_block) (maxL := 3) (ret := none) (by decide) rfl ?_
  intro p e s m args below meth c s₁ hBo hml hv
  obtain ⟨rfl, hsz, hP, hK, hD0⟩ := hv
  have hx := hBo.exec
  have hb := hBo.bytes
  have hr := hBo.returns
  have hts := atoms_spec (ws := (ws_ yX0_block cX0_block 3 none)) hBo.pre
  have hts : ∀ w ∈ lw_all, w.before _ s = true := fun w h => hts w (List.mem_cons_of_mem _ h)
  have hown : s.vm.findClass RX0 = some m.cls := findClass_of_methodNamed hBo.named
  have hlocks := hBo.notSynchronized
  subst hsz
  have hD := hD0.self (sz := s.heap.size)
  generalize hAe : va_A [(h0, .inr (0, [.ref k0, .ref b0, .ref o0])), (b0, .inl (cB, 8, .inl B))] s.heap.size = A at hD ⊢
  have hA : ∀ q : Nat, s.heap.size ≤ q → A q := fun q h => by rw [← hAe]; exact Or.inr h
  have hS : va_S A s.heap s.heap [] := va_S.rf
  have hl := lv_entry ([.ref h0, .int w1, .int w2]) (n := 3) (Nat.le_of_ble_eq_true rfl)
  rw [lg_entry_eq]
  generalize (lg_sl ([.ref h0, .int w1, .int w2]) ++ List.replicate (3 - (lg_sl ([.ref h0, .int w1, .int w2])).length) Slot.unset).toArray = ls at hl ⊢
  have hl : lv_has ls 3 [(0, .ref h0), (1, .int w1), (2, .int w2)] := hl
  refine lv_aload_n hx hb dX0_block_0 rfl (lv_at hl 0 rfl) ?_
  refine va_get (D := (dC, dI)) (ci := 0) (v := .ref b0) (C := RX0) (T := TX0) (N := 3) hx hb hts in_X0 hown hK hP 0 rfl rfl 1 (by decide) (hts _ q36) (fun _ h9 => h9) rfl dX0_block_1 ?_
  refine lv_iconst (v := 0) hx hb dX0_block_4 (by decide) ?_
  refine lv_iload_n hx hb dX0_block_5 rfl (lv_at hl 1 rfl) ?_
  refine bf_callv (wr := [(h0, .inr (0, [.ref k0, .ref b0, .ref o0]))]) (va_runS (As := [.ref b0, .int (nI 0), .int w1]) (rest := []) ⟨hx, hb, hml, hown, hts⟩ (met_X0_word l dC dI cB cI s.heap.size b0 8 0 w1 B (Nat.le_of_ble_eq_true rfl) (Nat.le_of_ble_eq_true rfl)) (va_cwS 3 hts (lw_S q50 q51 q14 q52) rfl rfl rfl (by decide +kernel) ⟨Nat.le_of_ble_eq_true rfl, Nat.le_of_ble_eq_true rfl⟩) (bf_preS hK hP hD [1] (by decide) rfl) rfl rfl hl.1 rfl (lv_room (Nat.le_of_ble_eq_true rfl)) dX0_block_6 ⟨Nat.le_of_ble_eq_true rfl, Nat.le_of_ble_eq_true rfl⟩) hP hD hS hA [1] [0] rfl rfl (by decide) (by decide) (fun _ H locs hP hD hS => ?_)
  have hP : va_P (dC, dI) vwCl [(h0, .inr (0, [.ref k0, .ref b0, .ref o0])), (b0, .inl (cB, 8, .inl (bf_put B 0 w1)))] H := hP
  have hD : va_D A [(h0, .inr (0, [.ref k0, .ref b0, .ref o0])), (b0, .inl (cB, 8, .inl (bf_put B 0 w1)))] := hD
  refine lv_aload_n hx hb dX0_block_9 rfl (lv_at hl 0 rfl) ?_
  refine va_get (D := (dC, dI)) (ci := 0) (v := .ref b0) (C := RX0) (T := TX0) (N := 3) hx hb hts in_X0 hown hK hP 0 rfl rfl 1 (by decide) (hts _ q36) (fun _ h9 => h9) rfl dX0_block_10 ?_
  refine lv_iconst (v := 4) hx hb dX0_block_13 (by decide) ?_
  refine lv_iload_n hx hb dX0_block_14 rfl (lv_at hl 2 rfl) ?_
  refine bf_callv (wr := [(h0, .inr (0, [.ref k0, .ref b0, .ref o0]))]) (va_runS (As := [.ref b0, .int (nI 4), .int w2]) (rest := []) ⟨hx, hb, hml, hown, hts⟩ (met_X0_word l dC dI cB cI H.size b0 8 4 w2 (bf_put B 0 w1) (Nat.le_of_ble_eq_true rfl) (Nat.le_of_ble_eq_true rfl)) (va_cwS 3 hts (lw_S q50 q51 q14 q52) rfl rfl rfl (by decide +kernel) ⟨Nat.le_of_ble_eq_true rfl, Nat.le_of_ble_eq_true rfl⟩) (bf_preS hK hP hD [1] (by decide) rfl) rfl rfl hl.1 rfl (lv_room (Nat.le_of_ble_eq_true rfl)) dX0_block_15 ⟨Nat.le_of_ble_eq_true rfl, Nat.le_of_ble_eq_true rfl⟩) hP hD hS hA [1] [0] rfl rfl (by decide) (by decide) (fun _ H locs hP hD hS => ?_)
  have hP : va_P (dC, dI) vwCl [(h0, .inr (0, [.ref k0, .ref b0, .ref o0])), (b0, .inl (cB, 8, .inl (bf_put (bf_put B 0 w1) 4 w2)))] H := hP
  have hD : va_D A [(h0, .inr (0, [.ref k0, .ref b0, .ref o0])), (b0, .inl (cB, 8, .inl (bf_put (bf_put B 0 w1) 4 w2)))] := hD
  exact W.vret hx hb hr (fun t ht hW => ⟨⟨(), rfl, trivial, by rw [ht]; exact hP, hD⟩, hS.F ht⟩) hS.2.2 dX0_block_18
set_option maxHeartbeats 4000000 in
set_option maxRecDepth 100000 in
/-- size(x) -/
theorem met_X0_size (l : Launch) (dC : Nat → ClassId) (dI : Nat → Nat → Nat) (cB cI : ClassId) (x : Int32) : Met l yX0_size (ws_ yX0_size cX0_size 1 (some .int)) ({ frames := 0, cells := 0, slots := 0, locals := 0 }) (va_Pc [.int x] (bfRd (dC, dI) cB cI [])) (vp_Si (fun r => r = nI (bf_n x))) 0 0 (fun _ => False) := by
  refine Met.ofW (cc := cX0_size) (maxL := 1) (ret := (some .int)) (by decide) rfl ?_
  intro p e s m args below meth c s₁ hBo hml hv
  obtain ⟨rfl, hP, hK⟩ := hv
  have hx := hBo.exec
  have hb := hBo.bytes
  have hr := hBo.returns
  have hts := atoms_spec (ws := (ws_ yX0_size cX0_size 1 (some .int))) hBo.pre
  have hts : ∀ w ∈ lw_all, w.before _ s = true := fun w h => hts w (List.mem_cons_of_mem _ h)
  have hown : s.vm.findClass RX0 = some m.cls := findClass_of_methodNamed hBo.named
  have hlocks := hBo.notSynchronized
  have hl := lv_entry ([.int x]) (n := 1) (Nat.le_of_ble_eq_true rfl)
  rw [lg_entry_eq]
  generalize (lg_sl ([.int x]) ++ List.replicate (1 - (lg_sl ([.int x])).length) Slot.unset).toArray = ls at hl ⊢
  have hl : lv_has ls 1 [(0, .int x)] := hl
  refine lv_iload_n hx hb dX0_size_0 rfl (lv_at hl 0 rfl) ?_
  refine lv_iconst (v := 3) hx hb dX0_size_1 (by decide) ?_
  refine lv_iand hx hb dX0_size_2 ?_
  refine bf_topE (y := nI (x.toBitVec.toNat % 2 ^ 2)) (pk_and x 2 (by decide)) ?_
  refine lv_iconst (v := 3) hx hb dX0_size_3 (by decide) ?_
  refine lv_irem hx hb dX0_size_4 (by decide) ?_
  refine bf_topE (y := nI (x.toBitVec.toNat % 4 % 3)) (bf_r3 x) ?_
  have hc : x.toBitVec.toNat % 4 % 3 = 0 ∨ x.toBitVec.toNat % 4 % 3 = 1 ∨ x.toBitVec.toNat % 4 % 3 = 2 := by omega
  rcases hc with hc | hc | hc
  · have en : nI (bf_n x) = 8 := by unfold bf_n; rw [hc]; decide
    refine bf_topE (y := 0) (by rw [hc]; rfl) ?_
    refine lv_if_ne (tgt := 13) hx hb dX0_size_5 (by decide) (fun h9 => absurd rfl h9) (fun _ => ?_)
    refine lv_bipush (v := 8) hx hb dX0_size_8 (by decide) ?_
    refine lv_goto (tgt := 29) hx hb dX0_size_10 (by decide) ?_
    exact W.iret (v := 8) hx hb hr (fun t ht hW => ⟨_, rfl, en.symm, by rw [ht]⟩) (fun q h => by cases h) dX0_size_29
  · have en : nI (bf_n x) = 16 := by unfold bf_n; rw [hc]; decide
    refine bf_topE (y := 1) (by rw [hc]; rfl) ?_
    refine lv_if_ne (tgt := 13) hx hb dX0_size_5 (by decide) (fun _ => ?_) (fun h9 => absurd h9 (by decide))
    refine lv_iload_n hx hb dX0_size_13 rfl (lv_at hl 0 rfl) ?_
    refine lv_iconst (v := 3) hx hb dX0_size_14 (by decide) ?_
    refine lv_iand hx hb dX0_size_15 ?_
    refine bf_topE (y := nI (x.toBitVec.toNat % 2 ^ 2)) (pk_and x 2 (by decide)) ?_
    refine lv_iconst (v := 3) hx hb dX0_size_16 (by decide) ?_
    refine lv_irem hx hb dX0_size_17 (by decide) ?_
    refine bf_topE (y := nI (x.toBitVec.toNat % 4 % 3)) (bf_r3 x) ?_
    refine bf_topE (y := 1) (by rw [hc]; rfl) ?_
    refine lv_iconst (v := 1) hx hb dX0_size_18 (by decide) ?_
    refine lv_icmp_ne (tgt := 27) hx hb dX0_size_19 (by decide) (fun h9 => absurd rfl h9) (fun _ => ?_)
    refine lv_bipush (v := 16) hx hb dX0_size_22 (by decide) ?_
    refine lv_goto (tgt := 29) hx hb dX0_size_24 (by decide) ?_
    exact W.iret (v := 16) hx hb hr (fun t ht hW => ⟨_, rfl, en.symm, by rw [ht]⟩) (fun q h => by cases h) dX0_size_29
  · have en : nI (bf_n x) = 24 := by unfold bf_n; rw [hc]; decide
    refine bf_topE (y := 2) (by rw [hc]; rfl) ?_
    refine lv_if_ne (tgt := 13) hx hb dX0_size_5 (by decide) (fun _ => ?_) (fun h9 => absurd h9 (by decide))
    refine lv_iload_n hx hb dX0_size_13 rfl (lv_at hl 0 rfl) ?_
    refine lv_iconst (v := 3) hx hb dX0_size_14 (by decide) ?_
    refine lv_iand hx hb dX0_size_15 ?_
    refine bf_topE (y := nI (x.toBitVec.toNat % 2 ^ 2)) (pk_and x 2 (by decide)) ?_
    refine lv_iconst (v := 3) hx hb dX0_size_16 (by decide) ?_
    refine lv_irem hx hb dX0_size_17 (by decide) ?_
    refine bf_topE (y := nI (x.toBitVec.toNat % 4 % 3)) (bf_r3 x) ?_
    refine bf_topE (y := 2) (by rw [hc]; rfl) ?_
    refine lv_iconst (v := 1) hx hb dX0_size_18 (by decide) ?_
    refine lv_icmp_ne (tgt := 27) hx hb dX0_size_19 (by decide) (fun _ => ?_) (fun h9 => absurd h9 (by decide))
    refine lv_bipush (v := 24) hx hb dX0_size_27 (by decide) ?_
    exact W.iret (v := 24) hx hb hr (fun t ht hW => ⟨_, rfl, en.symm, by rw [ht]⟩) (fun q h => by cases h) dX0_size_29
set_option maxHeartbeats 4000000 in
set_option maxRecDepth 100000 in
/-- again() -/
theorem met_X0_again (l : Launch) (dC : Nat → ClassId) (dI : Nat → Nat → Nat) (cB cI : ClassId) (sz : Nat) (h0 k0 b0 o0 : Nat) (K B O : Nat → Int32) : Met l yX0_again (ws_ yX0_again cX0_again 2 none) ({ frames := 0, cells := 0, slots := 0, locals := 0 }) (va_Pc [.ref h0] (bfPre (dC, dI) cB cI [(h0, .inr (0, [.ref k0, .ref b0, .ref o0])), (b0, .inl (cB, 8, .inl B)), (o0, .inl (cB, 8, .inl O))] sz)) (va_Qv (fun _ : Unit => True) (fun _ t => bfPost (dC, dI) [(h0, .inr (0, [.ref k0, .ref b0, .ref o0])), (b0, .inl (cB, 8, .inl (bf_cp B O 8))), (o0, .inl (cB, 8, .inl O))] (va_A [(h0, .inr (0, [.ref k0, .ref b0, .ref o0])), (b0, .inl (cB, 8, .inl B)), (o0, .inl (cB, 8, .inl O))] sz) t) (va_A [(h0, .inr (0, [.ref k0, .ref b0, .ref o0])), (b0, .inl (cB, 8, .inl B)), (o0, .inl (cB, 8, .inl O))] sz)) 0 0 (va_A [(h0, .inr (0, [.ref k0, .ref b0, .ref o0])), (b0, .inl (cB, 8, .inl B)), (o0, .inl (cB, 8, .inl O))] sz) := by
  refine Met.ofW (cc := cX0_again) (maxL := 2) (ret := none) (by decide) rfl ?_
  intro p e s m args below meth c s₁ hBo hml hv
  obtain ⟨rfl, hsz, hP, hK, hD0⟩ := hv
  have hx := hBo.exec
  have hb := hBo.bytes
  have hr := hBo.returns
  have hts := atoms_spec (ws := (ws_ yX0_again cX0_again 2 none)) hBo.pre
  have hts : ∀ w ∈ lw_all, w.before _ s = true := fun w h => hts w (List.mem_cons_of_mem _ h)
  have hown : s.vm.findClass RX0 = some m.cls := findClass_of_methodNamed hBo.named
  have hlocks := hBo.notSynchronized
  subst hsz
  have hD := hD0.self (sz := s.heap.size)
  generalize hAe : va_A [(h0, .inr (0, [.ref k0, .ref b0, .ref o0])), (b0, .inl (cB, 8, .inl B)), (o0, .inl (cB, 8, .inl O))] s.heap.size = A at hD ⊢
  have hA : ∀ q : Nat, s.heap.size ≤ q → A q := fun q h => by rw [← hAe]; exact Or.inr h
  have hS : va_S A s.heap s.heap [] := va_S.rf
  have hl := lv_entry ([.ref h0]) (n := 2) (Nat.le_of_ble_eq_true rfl)
  rw [lg_entry_eq]
  generalize (lg_sl ([.ref h0]) ++ List.replicate (2 - (lg_sl ([.ref h0])).length) Slot.unset).toArray = ls at hl ⊢
  have hl : lv_has ls 2 [(0, .ref h0)] := hl
  refine lv_iconst (v := 0) hx hb dX0_again_0 (by decide) ?_
  refine lv_istore_n (lv' := [(1, .int 0), (0, .ref h0)]) hx hb dX0_again_1 rfl hl (by decide) rfl (fun ls hl => ?_)
  have hP : va_P (dC, dI) vwCl [(h0, .inr (0, [.ref k0, .ref b0, .ref o0])), (b0, .inl (cB, 8, .inl (bf_cp B O 0))), (o0, .inl (cB, 8, .inl O))] s.heap := by rw [bf_cp_0]; exact hP
  have hD : va_D A [(h0, .inr (0, [.ref k0, .ref b0, .ref o0])), (b0, .inl (cB, 8, .inl (bf_cp B O 0))), (o0, .inl (cB, 8, .inl O))] := by rw [bf_cp_0]; exact hD
  have hl := lv_sub (l' := [(0, .ref h0), (1, .int 0)]) hl [1, 0] rfl
  refine bf_while 8 (fun i H locs ls => va_P (dC, dI) vwCl [(h0, .inr (0, [.ref k0, .ref b0, .ref o0])), (b0, .inl (cB, 8, .inl (bf_cp B O i))), (o0, .inl (cB, 8, .inl O))] H ∧ va_D A [(h0, .inr (0, [.ref k0, .ref b0, .ref o0])), (b0, .inl (cB, 8, .inl (bf_cp B O i))), (o0, .inl (cB, 8, .inl O))] ∧ va_S A s.heap H locs ∧ lv_has ls 2 [(0, .ref h0), (1, .int (nI i))]) (fun _ => 0) (fun _ => 0) 0 (Nat.zero_le _) ⟨hP, hD, hS, hl⟩ (fun H locs ls hI => ?_) (fun i hi ih H locs ls hI => ?_)
  · obtain ⟨hP, hD, hS, hl⟩ := hI
    refine lv_iload_n hx hb dX0_again_2 rfl (lv_at hl 1 rfl) ?_
    refine lv_bipush (v := 8) hx hb dX0_again_3 (by decide) ?_
    refine lv_icmp_ge (tgt := 26) hx hb dX0_again_5 (by decide) (fun _ => ?_) (fun h9 => absurd (nI_le (a := 8) (b := 8) (Nat.le_of_ble_eq_true rfl) (Nat.le_of_ble_eq_true rfl)) h9)
    exact W.vret hx hb hr (fun t ht hW => ⟨⟨(), rfl, trivial, by rw [ht]; exact hP, hD⟩, hS.F ht⟩) hS.2.2 dX0_again_26
  · obtain ⟨hP, hD, hS, hl⟩ := hI
    refine lv_iload_n hx hb dX0_again_2 rfl (lv_at hl 1 rfl) ?_
    refine lv_bipush (v := 8) hx hb dX0_again_3 (by decide) ?_
    refine lv_icmp_ge (tgt := 26) hx hb dX0_again_5 (by decide) (fun h9 => absurd h9 (nI_ge (a := i) (b := 8) hi (Nat.le_of_ble_eq_true rfl))) (fun _ => ?_)
    refine lv_aload_n hx hb dX0_again_8 rfl (lv_at hl 0 rfl) ?_
    refine va_get (D := (dC, dI)) (ci := 0) (v := .ref b0) (C := RX0) (T := TX0) (N := 3) hx hb hts in_X0 hown hK hP 0 rfl rfl 1 (by decide) (hts _ q36) (fun _ h9 => h9) rfl dX0_again_9 ?_
    refine lv_iload_n hx hb dX0_again_12 rfl (lv_at hl 1 rfl) ?_
    refine lv_aload_n hx hb dX0_again_13 rfl (lv_at hl 0 rfl) ?_
    refine va_get (D := (dC, dI)) (ci := 0) (v := .ref o0) (C := RX0) (T := TX0) (N := 3) hx hb hts in_X0 hown hK hP 0 rfl rfl 2 (by decide) (hts _ q37) (fun _ h9 => h9) rfl dX0_again_14 ?_
    refine lv_iload_n hx hb dX0_again_17 rfl (lv_at hl 1 rfl) ?_
    refine bf_bald hx hb hK hP 2 0 rfl rfl dX0_again_18 i rfl hi (Nat.le_of_ble_eq_true rfl) ?_
    refine bf_bast hx hb hK hP hD hS 1 0 rfl rfl dX0_again_19 i rfl hi (Nat.le_of_ble_eq_true rfl) ((O i).toInt8.toInt32) rfl (fun H locs hP hD hS => ?_)
    have hP : va_P (dC, dI) vwCl [(h0, .inr (0, [.ref k0, .ref b0, .ref o0])), (b0, .inl (cB, 8, .inl (upd (bf_cp B O i) i ((O i).toInt8.toInt32)))), (o0, .inl (cB, 8, .inl O))] H := hP
    have hD : va_D A [(h0, .inr (0, [.ref k0, .ref b0, .ref o0])), (b0, .inl (cB, 8, .inl (upd (bf_cp B O i) i ((O i).toInt8.toInt32)))), (o0, .inl (cB, 8, .inl O))] := hD
    rw [bf_cp_s] at hP hD
    refine lv_iinc (v := nI (i + 1)) (lv' := [(1, .int (nI (i + 1))), (0, .ref h0)]) hx hb dX0_again_20 hl (k := 1) rfl (nI_add i 1) (by decide) rfl (fun ls hl => ?_)
    refine lv_goto (tgt := 2) hx hb dX0_again_23 (by decide) ?_
    exact ih H locs ls ⟨hP, hD, hS, lv_sub hl [1, 0] rfl⟩
set_option maxHeartbeats 4000000 in
set_option maxRecDepth 100000 in
/-- out(x) -/
theorem met_X0_out (l : Launch) (dC : Nat → ClassId) (dI : Nat → Nat → Nat) (cB cI : ClassId) (h0 k0 b0 o0 : Nat) (K B O : Nat → Int32) (x : Int32) : Met l yX0_out (ws_ yX0_out cX0_out 2 (some .int)) ({ frames := 0, cells := 0, slots := 0, locals := 0 }) (va_Pc [.ref h0, .int x] (bfRd (dC, dI) cB cI [(h0, .inr (0, [.ref k0, .ref b0, .ref o0])), (o0, .inl (cB, 8, .inl O))])) (vp_Si (fun r => r = O (x.toBitVec.toNat % 2 ^ 3) &&& 255)) 0 0 (fun _ => False) := by
  refine Met.ofW (cc := cX0_out) (maxL := 2) (ret := (some .int)) (by decide) rfl ?_
  intro p e s m args below meth c s₁ hBo hml hv
  obtain ⟨rfl, hP, hK⟩ := hv
  have hx := hBo.exec
  have hb := hBo.bytes
  have hr := hBo.returns
  have hts := atoms_spec (ws := (ws_ yX0_out cX0_out 2 (some .int))) hBo.pre
  have hts : ∀ w ∈ lw_all, w.before _ s = true := fun w h => hts w (List.mem_cons_of_mem _ h)
  have hown : s.vm.findClass RX0 = some m.cls := findClass_of_methodNamed hBo.named
  have hlocks := hBo.notSynchronized
  have hl := lv_entry ([.ref h0, .int x]) (n := 2) (Nat.le_of_ble_eq_true rfl)
  rw [lg_entry_eq]
  generalize (lg_sl ([.ref h0, .int x]) ++ List.replicate (2 - (lg_sl ([.ref h0, .int x])).length) Slot.unset).toArray = ls at hl ⊢
  have hl : lv_has ls 2 [(0, .ref h0), (1, .int x)] := hl
  refine lv_aload_n hx hb dX0_out_0 rfl (lv_at hl 0 rfl) ?_
  refine va_get (D := (dC, dI)) (ci := 0) (v := .ref o0) (C := RX0) (T := TX0) (N := 3) hx hb hts in_X0 hown hK hP 0 rfl rfl 2 (by decide) (hts _ q37) (fun _ h9 => h9) rfl dX0_out_1 ?_
  refine lv_iload_n hx hb dX0_out_4 rfl (lv_at hl 1 rfl) ?_
  refine lv_bipush (v := 7) hx hb dX0_out_5 (by decide) ?_
  refine lv_iand hx hb dX0_out_7 ?_
  refine bf_topE (y := nI (x.toBitVec.toNat % 2 ^ 3)) (pk_and x 3 (by decide)) ?_
  refine bf_bald hx hb hK hP 1 0 rfl rfl dX0_out_8 (x.toBitVec.toNat % 2 ^ 3) rfl (by omega) (Nat.le_of_ble_eq_true rfl) ?_
  refine lv_sipush (v := 255) hx hb dX0_out_9 (by decide) ?_
  refine lv_iand hx hb dX0_out_12 ?_
  exact W.iret (v := ((O (x.toBitVec.toNat % 2 ^ 3)) &&& 255)) hx hb hr (fun t ht hW => ⟨_, rfl, rfl, by rw [ht]⟩) (fun q h => by cases h) dX0_out_13
set_option maxHeartbeats 4000000 in
set_option maxRecDepth 100000 in
/-- run(true, kind) -/
theorem met_X0_run_1 (l : Launch) (dC : Nat → ClassId) (dI : Nat → Nat → Nat) (cB cI : ClassId) (tS : Nat → Nat) (sz : Nat) (h0 k0 b0 o0 : Nat) (K B O : Nat → Int32) (x : Int32) : Met l yX0_run (ws_ yX0_run cX0_run 6 none) ({ frames := 4, cells := 9, slots := 1098, locals := 95 }) (va_Pc [.ref h0, .int 1, .int x] (bfPreX (dC, dI) cB cI tS [(h0, .inr (0, [.ref k0, .ref b0, .ref o0])), (k0, .inl (cB, 32, .inl K)), (b0, .inl (cB, 8, .inl B)), (o0, .inl (cB, 8, .inl O))] sz)) (va_Qv (fun _ : Unit => True) (fun _ t => bfPost (dC, dI) [(h0, .inr (0, [.ref k0, .ref b0, .ref o0])), (k0, .inl (cB, 32, .inl K)), (b0, .inl (cB, 8, .inl B)), (o0, .inl (cB, 8, .inl (bf_out bf_PI K B O (bf_n x) true)))] (va_A [(h0, .inr (0, [.ref k0, .ref b0, .ref o0])), (k0, .inl (cB, 32, .inl K)), (b0, .inl (cB, 8, .inl B)), (o0, .inl (cB, 8, .inl O))] sz) t) (va_A [(h0, .inr (0, [.ref k0, .ref b0, .ref o0])), (k0, .inl (cB, 32, .inl K)), (b0, .inl (cB, 8, .inl B)), (o0, .inl (cB, 8, .inl O))] sz)) 9 1098 (va_A [(h0, .inr (0, [.ref k0, .ref b0, .ref o0])), (k0, .inl (cB, 32, .inl K)), (b0, .inl (cB, 8, .inl B)), (o0, .inl (cB, 8, .inl O))] sz) := by
  refine Met.ofW (cc := cX0_run) (maxL := 6) (ret := none) (by decide) rfl ?_
  intro p e s m args below meth c s₁ hBo hml hv
  obtain ⟨rfl, ⟨hsz, hP, hK, hD0⟩, hX⟩ := hv
  have hx := hBo.exec
  have hb := hBo.bytes
  have hr := hBo.returns
  have hts := atoms_spec (ws := (ws_ yX0_run cX0_run 6 none)) hBo.pre
  have hts : ∀ w ∈ lw_all, w.before _ s = true := fun w h => hts w (List.mem_cons_of_mem _ h)
  have hown : s.vm.findClass RX0 = some m.cls := findClass_of_methodNamed hBo.named
  have hlocks := hBo.notSynchronized
  subst hsz
  have hD := hD0.self (sz := s.heap.size)
  generalize hAe : va_A [(h0, .inr (0, [.ref k0, .ref b0, .ref o0])), (k0, .inl (cB, 32, .inl K)), (b0, .inl (cB, 8, .inl B)), (o0, .inl (cB, 8, .inl O))] s.heap.size = A at hD ⊢ hX
  have hA : ∀ q : Nat, s.heap.size ≤ q → A q := fun q h => by rw [← hAe]; exact Or.inr h
  have hS : va_S A s.heap s.heap [] := va_S.rf
  have hl := lv_entry ([.ref h0, .int 1, .int x]) (n := 6) (Nat.le_of_ble_eq_true rfl)
  rw [lg_entry_eq]
  generalize (lg_sl ([.ref h0, .int 1, .int x]) ++ List.replicate (6 - (lg_sl ([.ref h0, .int 1, .int x])).length) Slot.unset).toArray = ls at hl ⊢
  have hl : lv_has ls 6 [(0, .ref h0), (1, .int 1), (2, .int x)] := hl
  have hn8 := bf_n_ge x
  have hn24 := bf_n_le x
  refine lv_iload_n hx hb dX0_run_0 rfl (lv_at hl 2 rfl) ?_
  refine lv_iconst (v := 3) hx hb dX0_run_1 (by decide) ?_
  refine lv_iand hx hb dX0_run_2 ?_
  refine bf_topE (y := nI (x.toBitVec.toNat % 2 ^ 2)) (pk_and x 2 (by decide)) ?_
  refine bf_calli (va_Run.run (va_runS (As := [.int (nI (x.toBitVec.toNat % 2 ^ 2))]) (rest := []) ⟨hx, hb, hml, hown, hts⟩ (met_X0_size l dC dI cB cI (nI (x.toBitVec.toNat % 2 ^ 2))) (va_cwS 1 hts (lw_S q65 q66 q14 q67) rfl rfl rfl (by decide +kernel) ⟨Nat.le_of_ble_eq_true rfl, Nat.le_of_ble_eq_true rfl⟩) (bf_rdS hK hP [] rfl) rfl rfl hl.1 rfl (lv_room (Nat.le_of_ble_eq_true rfl)) dX0_run_3 ⟨Nat.le_of_ble_eq_true rfl, Nat.le_of_ble_eq_true rfl⟩)) ?_
  refine bf_topE (y := nI (bf_n x)) (by rw [bf_n_3]) ?_
  refine lv_istore_n (lv' := [(3, .int (nI (bf_n x))), (0, .ref h0), (1, .int 1), (2, .int x)]) hx hb dX0_run_6 rfl hl (by decide) rfl (fun ls hl => ?_)
  refine lv_iload_n hx hb dX0_run_7 rfl (lv_at hl 0 rfl) ?_
  refine bf_newa (atype := .byte) hx hb (hts _ q45) rfl hK 0 rfl (fun z z' h h' => Option.some.inj (h.symm.trans h')) hP hD hS hA dX0_run_8 (bf_n x) rfl (by omega) ((bf_n x), .inl (fun _ => 0)) (fun _ => rfl) (by show bf_n x * 1 ≤ _; omega) (Nat.le_of_ble_eq_true rfl) (by show 0 + bf_n x ≤ 1098; omega) (fun q H hP hD hS => ?_)
  have hP : va_P (dC, dI) vwCl [(h0, .inr (0, [.ref k0, .ref b0, .ref o0])), (k0, .inl (cB, 32, .inl K)), (b0, .inl (cB, 8, .inl B)), (o0, .inl (cB, 8, .inl O)), (q, .inl (cB, (bf_n x), .inl (fun _ => 0)))] H := hP
  have hD : va_D A [(h0, .inr (0, [.ref k0, .ref b0, .ref o0])), (k0, .inl (cB, 32, .inl K)), (b0, .inl (cB, 8, .inl B)), (o0, .inl (cB, 8, .inl O)), (q, .inl (cB, (bf_n x), .inl (fun _ => 0)))] := hD
  refine W.widen (k := 1) (n := 24) (Nat.le_of_ble_eq_true rfl) (by omega) ?_
  refine lv_astore (lv' := [(4, .ref q), (3, .int (nI (bf_n x))), (0, .ref h0), (1, .int 1), (2, .int x)]) hx hb dX0_run_10 hl (by decide) rfl (fun ls hl => ?_)
  refine lv_iconst (v := 0) hx hb dX0_run_12 (by decide) ?_
  refine lv_istore (lv' := [(5, .int 0), (4, .ref q), (3, .int (nI (bf_n x))), (0, .ref h0), (1, .int 1), (2, .int x)]) hx hb dX0_run_13 hl (by decide) rfl (fun ls hl => ?_)
  have hP : va_P (dC, dI) vwCl [(h0, .inr (0, [.ref k0, .ref b0, .ref o0])), (k0, .inl (cB, 32, .inl K)), (b0, .inl (cB, 8, .inl B)), (o0, .inl (cB, 8, .inl O)), (q, .inl (cB, (bf_n x), .inl (bf_cp (fun _ => 0) K 0)))] H := by rw [bf_cp_0]; exact hP
  have hD : va_D A [(h0, .inr (0, [.ref k0, .ref b0, .ref o0])), (k0, .inl (cB, 32, .inl K)), (b0, .inl (cB, 8, .inl B)), (o0, .inl (cB, 8, .inl O)), (q, .inl (cB, (bf_n x), .inl (bf_cp (fun _ => 0) K 0)))] := by rw [bf_cp_0]; exact hD
  have hl := lv_sub (l' := [(0, .ref h0), (1, .int 1), (3, .int (nI (bf_n x))), (4, .ref q), (5, .int 0)]) hl [3, 4, 2, 1, 0] rfl
  refine bf_while (bf_n x) (fun i H locs ls => va_P (dC, dI) vwCl [(h0, .inr (0, [.ref k0, .ref b0, .ref o0])), (k0, .inl (cB, 32, .inl K)), (b0, .inl (cB, 8, .inl B)), (o0, .inl (cB, 8, .inl O)), (q, .inl (cB, (bf_n x), .inl (bf_cp (fun _ => 0) K i)))] H ∧ va_D A [(h0, .inr (0, [.ref k0, .ref b0, .ref o0])), (k0, .inl (cB, 32, .inl K)), (b0, .inl (cB, 8, .inl B)), (o0, .inl (cB, 8, .inl O)), (q, .inl (cB, (bf_n x), .inl (bf_cp (fun _ => 0) K i)))] ∧ va_S A s.heap H locs ∧ lv_has ls 6 [(0, .ref h0), (1, .int 1), (3, .int (nI (bf_n x))), (4, .ref q), (5, .int (nI i))]) (fun _ => 1) (fun _ => 24) 0 (Nat.zero_le _) ⟨hP, hD, hS, hl⟩ (fun H locs ls hI => ?_) (fun i hi ih H locs ls hI => ?_)
  · obtain ⟨hP, hD, hS, hl⟩ := hI
    refine lv_iload hx hb dX0_run_15 (lv_at hl 4 rfl) ?_
    refine lv_iload_n hx hb dX0_run_17 rfl (lv_at hl 2 rfl) ?_
    refine lv_icmp_ge (tgt := 39) hx hb dX0_run_18 (by decide) (fun _ => ?_) (fun h9 => absurd (Int32.le_refl _) h9)
    refine va_new (ci := 2) (fs := [.null, .null, .null, .null, .null, .int 0, .null]) (C := RX2) (T := TX2) (N := 7) hx hb hts in_X2 tyX2 tyX2_ok hown (hts _ q68) (hts _ q69) (hts _ q16) hK hP hD hS hA rfl (fun j hj => by rcases (show j = 0 ∨ j = 1 ∨ j = 2 ∨ j = 3 ∨ j = 4 ∨ j = 5 ∨ j = 6 by omega) with rfl | rfl | rfl | rfl | rfl | rfl | rfl <;> rfl) (Nat.le_of_ble_eq_true rfl) (Nat.le_of_ble_eq_true rfl) dX0_run_39 (fun e0 H hP hD hS => ?_)
    have hP : va_P (dC, dI) vwCl [(h0, .inr (0, [.ref k0, .ref b0, .ref o0])), (k0, .inl (cB, 32, .inl K)), (b0, .inl (cB, 8, .inl B)), (o0, .inl (cB, 8, .inl O)), (q, .inl (cB, (bf_n x), .inl (bf_cp (fun _ => 0) K (bf_n x)))), (e0, .inr (2, [.null, .null, .null, .null, .null, .int 0, .null]))] H := hP
    have hD : va_D A [(h0, .inr (0, [.ref k0, .ref b0, .ref o0])), (k0, .inl (cB, 32, .inl K)), (b0, .inl (cB, 8, .inl B)), (o0, .inl (cB, 8, .inl O)), (q, .inl (cB, (bf_n x), .inl (bf_cp (fun _ => 0) K (bf_n x)))), (e0, .inr (2, [.null, .null, .null, .null, .null, .int 0, .null]))] := hD
    refine lv_dup hx hb dX0_run_42 rfl ?_
    refine bf_callv (wr := [(h0, .inr (0, [.ref k0, .ref b0, .ref o0])), (k0, .inl (cB, 32, .inl K)), (b0, .inl (cB, 8, .inl B)), (o0, .inl (cB, 8, .inl O)), (q, .inl (cB, (bf_n x), .inl (bf_cp (fun _ => 0) K (bf_n x))))]) (va_runI (As := []) (rest := [.ref e0]) ⟨hx, hb, hml, hown, hts⟩ (met_X2_init l dC dI cB cI H.size e0) (cwI 0 hts (lw_meth q72) rfl rfl rfl (hts _ q16) (hts _ q70) (hts _ q71) rfl (by decide +kernel) ⟨Nat.le_of_ble_eq_true rfl, Nat.le_of_ble_eq_true rfl⟩) (bf_preS hK hP hD [5] (by decide) rfl) rfl rfl hl.1 rfl (lv_room (Nat.le_of_ble_eq_true rfl)) dX0_run_43 ⟨Nat.le_of_ble_eq_true rfl, Nat.le_of_ble_eq_true rfl⟩) hP hD hS hA [5] [0, 1, 2, 3, 4] rfl rfl (by decide) (by decide) (fun u H locs hP hD hS => ?_)
    obtain ⟨a0, a1, a2, a3, a4⟩ := u
    have hP : va_P (dC, dI) vwCl [(h0, .inr (0, [.ref k0, .ref b0, .ref o0])), (k0, .inl (cB, 32, .inl K)), (b0, .inl (cB, 8, .inl B)), (o0, .inl (cB, 8, .inl O)), (q, .inl (cB, (bf_n x), .inl (bf_cp (fun _ => 0) K (bf_n x)))), (e0, .inr (2, [.ref a0, .ref a1, .ref a2, .ref a3, .ref a4, .int 0, .null])), (a0, .inl (cI, 256, .inl (fun _ => 0))), (a1, .inl (cI, 256, .inl (fun _ => 0))), (a2, .inl (cI, 256, .inl (fun _ => 0))), (a3, .inl (cI, 256, .inl (fun _ => 0))), (a4, .inl (cI, 18, .inl (fun _ => 0)))] H := hP
    have hD : va_D A [(h0, .inr (0, [.ref k0, .ref b0, .ref o0])), (k0, .inl (cB, 32, .inl K)), (b0, .inl (cB, 8, .inl B)), (o0, .inl (cB, 8, .inl O)), (q, .inl (cB, (bf_n x), .inl (bf_cp (fun _ => 0) K (bf_n x)))), (e0, .inr (2, [.ref a0, .ref a1, .ref a2, .ref a3, .ref a4, .int 0, .null])), (a0, .inl (cI, 256, .inl (fun _ => 0))), (a1, .inl (cI, 256, .inl (fun _ => 0))), (a2, .inl (cI, 256, .inl (fun _ => 0))), (a3, .inl (cI, 256, .inl (fun _ => 0))), (a4, .inl (cI, 18, .inl (fun _ => 0)))] := hD
    refine lv_astore (lv' := [(5, .ref e0), (0, .ref h0), (1, .int 1), (3, .int (nI (bf_n x))), (4, .ref q)]) hx hb dX0_run_46 hl (by decide) rfl (fun ls hl => ?_)
    refine lv_aload hx hb dX0_run_48 (lv_at hl 0 rfl) ?_
    refine lv_iload_n hx hb dX0_run_50 rfl (lv_at hl 2 rfl) ?_
    refine va_new (ci := 3) (fs := [.null]) (C := RX3) (T := TX3) (N := 1) hx hb hts in_X3 tyX3 tyX3_ok hown (hts _ q97) (hts _ q98) (hts _ q17) hK hP hD hS hA rfl (fun j hj => by rcases (show j = 0 by omega) with rfl <;> rfl) (Nat.le_of_ble_eq_true rfl) (Nat.le_of_ble_eq_true rfl) dX0_run_51 (fun kp H hP hD hS => ?_)
    have hP : va_P (dC, dI) vwCl [(h0, .inr (0, [.ref k0, .ref b0, .ref o0])), (k0, .inl (cB, 32, .inl K)), (b0, .inl (cB, 8, .inl B)), (o0, .inl (cB, 8, .inl O)), (q, .inl (cB, (bf_n x), .inl (bf_cp (fun _ => 0) K (bf_n x)))), (e0, .inr (2, [.ref a0, .ref a1, .ref a2, .ref a3, .ref a4, .int 0, .null])), (a0, .inl (cI, 256, .inl (fun _ => 0))), (a1, .inl (cI, 256, .inl (fun _ => 0))), (a2, .inl (cI, 256, .inl (fun _ => 0))), (a3, .inl (cI, 256, .inl (fun _ => 0))), (a4, .inl (cI, 18, .inl (fun _ => 0))), (kp, .inr (3, [.null]))] H := hP
    have hD : va_D A [(h0, .inr (0, [.ref k0, .ref b0, .ref o0])), (k0, .inl (cB, 32, .inl K)), (b0, .inl (cB, 8, .inl B)), (o0, .inl (cB, 8, .inl O)), (q, .inl (cB, (bf_n x), .inl (bf_cp (fun _ => 0) K (bf_n x)))), (e0, .inr (2, [.ref a0, .ref a1, .ref a2, .ref a3, .ref a4, .int 0, .null])), (a0, .inl (cI, 256, .inl (fun _ => 0))), (a1, .inl (cI, 256, .inl (fun _ => 0))), (a2, .inl (cI, 256, .inl (fun _ => 0))), (a3, .inl (cI, 256, .inl (fun _ => 0))), (a4, .inl (cI, 18, .inl (fun _ => 0))), (kp, .inr (3, [.null]))] := hD
    refine lv_dup hx hb dX0_run_54 rfl ?_
    refine lv_aload hx hb dX0_run_55 (lv_at hl 4 rfl) ?_
    have hfit : ∀ i, i < bf_n x → fits .byte (.int (bf_cp (fun _ => 0) K (bf_n x) i)) = true := fun i hi => by unfold bf_cp; rw [if_pos hi]; exact pk_fb _
    refine bf_callv (wr := [(h0, .inr (0, [.ref k0, .ref b0, .ref o0])), (k0, .inl (cB, 32, .inl K)), (b0, .inl (cB, 8, .inl B)), (o0, .inl (cB, 8, .inl O)), (e0, .inr (2, [.ref a0, .ref a1, .ref a2, .ref a3, .ref a4, .int 0, .null])), (a0, .inl (cI, 256, .inl (fun _ => 0))), (a1, .inl (cI, 256, .inl (fun _ => 0))), (a2, .inl (cI, 256, .inl (fun _ => 0))), (a3, .inl (cI, 256, .inl (fun _ => 0))), (a4, .inl (cI, 18, .inl (fun _ => 0)))]) (va_runI (As := [.ref q]) (rest := [.ref kp, .int 1, .ref e0]) ⟨hx, hb, hml, hown, hts⟩ (met_X3_init l dC dI cB cI H.size kp q (bf_n x) (bf_cp (fun _ => 0) K (bf_n x)) hn24 hfit) (cwI 1 hts (lw_meth q101) rfl rfl rfl (hts _ q17) (hts _ q99) (hts _ q100) rfl (by decide +kernel) ⟨Nat.le_of_ble_eq_true rfl, Nat.le_of_ble_eq_true rfl⟩) (bf_preS hK hP hD [11, 4] (by decide) rfl) rfl rfl hl.1 rfl (lv_room (Nat.le_of_ble_eq_true rfl)) dX0_run_57 ⟨Nat.le_of_ble_eq_true rfl, Nat.le_of_ble_eq_true rfl⟩) hP hD hS hA [11, 4] [0, 1, 2, 3, 5, 6, 7, 8, 9, 10] rfl rfl (by decide) (by decide) (fun kb H locs hP hD hS => ?_)
    have hP : va_P (dC, dI) vwCl [(h0, .inr (0, [.ref k0, .ref b0, .ref o0])), (k0, .inl (cB, 32, .inl K)), (b0, .inl (cB, 8, .inl B)), (o0, .inl (cB, 8, .inl O)), (e0, .inr (2, [.ref a0, .ref a1, .ref a2, .ref a3, .ref a4, .int 0, .null])), (a0, .inl (cI, 256, .inl (fun _ => 0))), (a1, .inl (cI, 256, .inl (fun _ => 0))), (a2, .inl (cI, 256, .inl (fun _ => 0))), (a3, .inl (cI, 256, .inl (fun _ => 0))), (a4, .inl (cI, 18, .inl (fun _ => 0))), (q, .inl (cB, (bf_n x), .inl (bf_cp (fun _ => 0) K (bf_n x)))), (kp, .inr (3, [.ref kb])), (kb, .inl (cB, (bf_n x), .inl (bf_cp (fun _ => 0) K (bf_n x))))] H := hP
    have hD : va_D A [(h0, .inr (0, [.ref k0, .ref b0, .ref o0])), (k0, .inl (cB, 32, .inl K)), (b0, .inl (cB, 8, .inl B)), (o0, .inl (cB, 8, .inl O)), (e0, .inr (2, [.ref a0, .ref a1, .ref a2, .ref a3, .ref a4, .int 0, .null])), (a0, .inl (cI, 256, .inl (fun _ => 0))), (a1, .inl (cI, 256, .inl (fun _ => 0))), (a2, .inl (cI, 256, .inl (fun _ => 0))), (a3, .inl (cI, 256, .inl (fun _ => 0))), (a4, .inl (cI, 18, .inl (fun _ => 0))), (q, .inl (cB, (bf_n x), .inl (bf_cp (fun _ => 0) K (bf_n x)))), (kp, .inr (3, [.ref kb])), (kb, .inl (cB, (bf_n x), .inl (bf_cp (fun _ => 0) K (bf_n x))))] := hD
    refine bf_callFv (wr := [(h0, .inr (0, [.ref k0, .ref b0, .ref o0])), (k0, .inl (cB, 32, .inl K)), (b0, .inl (cB, 8, .inl B)), (o0, .inl (cB, 8, .inl O)), (q, .inl (cB, (bf_n x), .inl (bf_cp (fun _ => 0) K (bf_n x))))]) (va_runF (hK.1 2 _ rfl).2 (As := [.int 1, .ref kp]) (rest := []) ⟨hx, hb, hml, hown, hts⟩ (met_X2_init_2_1 l dC dI cB cI tS H.size e0 a0 a1 a2 a3 a4 kp kb (bf_n x) 0 .null (fun _ => 0) (fun _ => 0) (fun _ => 0) (fun _ => 0) (fun _ => 0) (bf_cp (fun _ => 0) K (bf_n x)) (by omega) (by omega)) (va_cwF 2 hts (bf_lwF q117 q121 q123 q16 q125) rfl rfl rfl hX.2.2.2.2.2.2.1 (by decide +kernel) ⟨Nat.le_of_ble_eq_true rfl, Nat.le_of_ble_eq_true rfl⟩) (bf_preVX hK hP hD [4, 5, 6, 7, 8, 9, 11, 12] (by decide) rfl (ci := 2) (q0 := 4) rfl rfl hX hS hA) rfl rfl hl.1 rfl (lv_room (Nat.le_of_ble_eq_true rfl)) dX0_run_60 ⟨Nat.le_of_ble_eq_true rfl, Nat.le_of_ble_eq_true rfl⟩) hP hD hS hA [4, 5, 6, 7, 8, 9, 11, 12] [0, 1, 2, 3, 10] rfl rfl (by decide) (by decide) (fun _ H locs hP hD hS => ?_)
    have hP : va_P (dC, dI) vwCl [(h0, .inr (0, [.ref k0, .ref b0, .ref o0])), (k0, .inl (cB, 32, .inl K)), (b0, .inl (cB, 8, .inl B)), (o0, .inl (cB, 8, .inl O)), (q, .inl (cB, (bf_n x), .inl (bf_cp (fun _ => 0) K (bf_n x)))), (kp, .inr (3, [.ref kb])), (e0, .inr (2, [.ref a0, .ref a1, .ref a2, .ref a3, .ref a4, .int 1, .ref kb])), (a0, .inl (cI, 256, .inl (fun k => (bf_sch bf_PI (bf_cp (fun _ => 0) K (bf_n x)) (bf_n x)) (18 + k)))), (a1, .inl (cI, 256, .inl (fun k => (bf_sch bf_PI (bf_cp (fun _ => 0) K (bf_n x)) (bf_n x)) (274 + k)))), (a2, .inl (cI, 256, .inl (fun k => (bf_sch bf_PI (bf_cp (fun _ => 0) K (bf_n x)) (bf_n x)) (530 + k)))), (a3, .inl (cI, 256, .inl (fun k => (bf_sch bf_PI (bf_cp (fun _ => 0) K (bf_n x)) (bf_n x)) (786 + k)))), (a4, .inl (cI, 18, .inl (bf_sch bf_PI (bf_cp (fun _ => 0) K (bf_n x)) (bf_n x)))), (kb, .inl (cB, (bf_n x), .inl (bf_cp (fun _ => 0) K (bf_n x))))] H := hP
    have hD : va_D A [(h0, .inr (0, [.ref k0, .ref b0, .ref o0])), (k0, .inl (cB, 32, .inl K)), (b0, .inl (cB, 8, .inl B)), (o0, .inl (cB, 8, .inl O)), (q, .inl (cB, (bf_n x), .inl (bf_cp (fun _ => 0) K (bf_n x)))), (kp, .inr (3, [.ref kb])), (e0, .inr (2, [.ref a0, .ref a1, .ref a2, .ref a3, .ref a4, .int 1, .ref kb])), (a0, .inl (cI, 256, .inl (fun k => (bf_sch bf_PI (bf_cp (fun _ => 0) K (bf_n x)) (bf_n x)) (18 + k)))), (a1, .inl (cI, 256, .inl (fun k => (bf_sch bf_PI (bf_cp (fun _ => 0) K (bf_n x)) (bf_n x)) (274 + k)))), (a2, .inl (cI, 256, .inl (fun k => (bf_sch bf_PI (bf_cp (fun _ => 0) K (bf_n x)) (bf_n x)) (530 + k)))), (a3, .inl (cI, 256, .inl (fun k => (bf_sch bf_PI (bf_cp (fun _ => 0) K (bf_n x)) (bf_n x)) (786 + k)))), (a4, .inl (cI, 18, .inl (bf_sch bf_PI (bf_cp (fun _ => 0) K (bf_n x)) (bf_n x)))), (kb, .inl (cB, (bf_n x), .inl (bf_cp (fun _ => 0) K (bf_n x))))] := hD
    rw [show bf_sch bf_PI (bf_cp (fun _ => 0) K (bf_n x)) (bf_n x) = bf_sch bf_PI K (bf_n x) from bf_sch_congr (by omega) (fun j hj => by unfold bf_cp; rw [if_pos hj]; exact bp_b _)] at hP hD
    refine lv_aload hx hb dX0_run_65 (lv_at hl 0 rfl) ?_
    refine lv_aload_n hx hb dX0_run_67 rfl (lv_at hl 1 rfl) ?_
    refine va_get (D := (dC, dI)) (ci := 0) (v := .ref b0) (C := RX0) (T := TX0) (N := 3) hx hb hts in_X0 hown hK hP 0 rfl rfl 1 (by decide) (hts _ q36) (fun _ h9 => h9) rfl dX0_run_68 ?_
    refine lv_iconst (v := 0) hx hb dX0_run_71 (by decide) ?_
    refine lv_aload_n hx hb dX0_run_72 rfl (lv_at hl 1 rfl) ?_
    refine va_get (D := (dC, dI)) (ci := 0) (v := .ref o0) (C := RX0) (T := TX0) (N := 3) hx hb hts in_X0 hown hK hP 0 rfl rfl 2 (by decide) (hts _ q37) (fun _ h9 => h9) rfl dX0_run_73 ?_
    refine lv_iconst (v := 0) hx hb dX0_run_76 (by decide) ?_
    refine bf_callFi (wr := [(h0, .inr (0, [.ref k0, .ref b0, .ref o0])), (k0, .inl (cB, 32, .inl K)), (q, .inl (cB, (bf_n x), .inl (bf_cp (fun _ => 0) K (bf_n x)))), (kp, .inr (3, [.ref kb])), (kb, .inl (cB, (bf_n x), .inl (bf_cp (fun _ => 0) K (bf_n x))))]) (va_runF (hK.1 2 _ rfl).2 (As := [.ref b0, .int 0, .ref o0, .int 0]) (rest := []) ⟨hx, hb, hml, hown, hts⟩ (met_X2_processBlock_1 l dC dI cB cI H.size e0 a0 a1 a2 a3 a4 kb b0 o0 (bf_sch bf_PI K (bf_n x)) B O) (va_cwF 4 hts (bf_lwF q224 q227 q229 q16 q231) rfl rfl rfl hX.2.2.2.2.2.2.2 (by decide +kernel) ⟨Nat.le_of_ble_eq_true rfl, Nat.le_of_ble_eq_true rfl⟩) (bf_preV hK hP hD [6, 7, 8, 9, 10, 11, 2, 3] (by decide) rfl (ci := 2) (q0 := 6) rfl rfl) rfl rfl hl.1 rfl (lv_room (Nat.le_of_ble_eq_true rfl)) dX0_run_77 ⟨Nat.le_of_ble_eq_true rfl, Nat.le_of_ble_eq_true rfl⟩) hP hD hS hA [6, 7, 8, 9, 10, 11, 2, 3] [0, 1, 4, 5, 12] rfl rfl (by decide) (by decide) (fun r9 _ H locs hP hD hS => ?_)
    have hP : va_P (dC, dI) vwCl [(h0, .inr (0, [.ref k0, .ref b0, .ref o0])), (k0, .inl (cB, 32, .inl K)), (q, .inl (cB, (bf_n x), .inl (bf_cp (fun _ => 0) K (bf_n x)))), (kp, .inr (3, [.ref kb])), (kb, .inl (cB, (bf_n x), .inl (bf_cp (fun _ => 0) K (bf_n x)))), (e0, .inr (2, [.ref a0, .ref a1, .ref a2, .ref a3, .ref a4, .int 1, .ref kb])), (a0, .inl (cI, 256, .inl (fun k => (bf_sch bf_PI K (bf_n x)) (18 + k)))), (a1, .inl (cI, 256, .inl (fun k => (bf_sch bf_PI K (bf_n x)) (274 + k)))), (a2, .inl (cI, 256, .inl (fun k => (bf_sch bf_PI K (bf_n x)) (530 + k)))), (a3, .inl (cI, 256, .inl (fun k => (bf_sch bf_PI K (bf_n x)) (786 + k)))), (a4, .inl (cI, 18, .inl (bf_sch bf_PI K (bf_n x)))), (b0, .inl (cB, 8, .inl B)), (o0, .inl (cB, 8, .inl (bf_put (bf_put O 0 (bf_cr (bf_sch bf_PI K (bf_n x)) (bf_sch bf_PI K (bf_n x)) (bf_wd B 0 4) (bf_wd B 4 4)).1) 4 (bf_cr (bf_sch bf_PI K (bf_n x)) (bf_sch bf_PI K (bf_n x)) (bf_wd B 0 4) (bf_wd B 4 4)).2)))] H := hP
    have hD : va_D A [(h0, .inr (0, [.ref k0, .ref b0, .ref o0])), (k0, .inl (cB, 32, .inl K)), (q, .inl (cB, (bf_n x), .inl (bf_cp (fun _ => 0) K (bf_n x)))), (kp, .inr (3, [.ref kb])), (kb, .inl (cB, (bf_n x), .inl (bf_cp (fun _ => 0) K (bf_n x)))), (e0, .inr (2, [.ref a0, .ref a1, .ref a2, .ref a3, .ref a4, .int 1, .ref kb])), (a0, .inl (cI, 256, .inl (fun k => (bf_sch bf_PI K (bf_n x)) (18 + k)))), (a1, .inl (cI, 256, .inl (fun k => (bf_sch bf_PI K (bf_n x)) (274 + k)))), (a2, .inl (cI, 256, .inl (fun k => (bf_sch bf_PI K (bf_n x)) (530 + k)))), (a3, .inl (cI, 256, .inl (fun k => (bf_sch bf_PI K (bf_n x)) (786 + k)))), (a4, .inl (cI, 18, .inl (bf_sch bf_PI K (bf_n x)))), (b0, .inl (cB, 8, .inl B)), (o0, .inl (cB, 8, .inl (bf_put (bf_put O 0 (bf_cr (bf_sch bf_PI K (bf_n x)) (bf_sch bf_PI K (bf_n x)) (bf_wd B 0 4) (bf_wd B 4 4)).1) 4 (bf_cr (bf_sch bf_PI K (bf_n x)) (bf_sch bf_PI K (bf_n x)) (bf_wd B 0 4) (bf_wd B 4 4)).2)))] := hD
    rw [bf_out_1] at hP hD
    refine lv_pop hx hb dX0_run_82 rfl ?_
    have hP := hP.sub (ws' := [(h0, .inr (0, [.ref k0, .ref b0, .ref o0])), (k0, .inl (cB, 32, .inl K)), (b0, .inl (cB, 8, .inl B)), (o0, .inl (cB, 8, .inl (bf_out bf_PI K B O (bf_n x) true)))]) [0, 1, 11, 12] rfl
    have hD := hD.sub (ws' := [(h0, .inr (0, [.ref k0, .ref b0, .ref o0])), (k0, .inl (cB, 32, .inl K)), (b0, .inl (cB, 8, .inl B)), (o0, .inl (cB, 8, .inl (bf_out bf_PI K B O (bf_n x) true)))]) [0, 1, 11, 12] (by decide) rfl
    exact W.vret hx hb hr (fun t ht hW => ⟨⟨(), rfl, trivial, by rw [ht]; exact hP, hD⟩, hS.F ht⟩) hS.2.2 dX0_run_83
  · obtain ⟨hP, hD, hS, hl⟩ := hI
    refine lv_iload hx hb dX0_run_15 (lv_at hl 4 rfl) ?_
    refine lv_iload_n hx hb dX0_run_17 rfl (lv_at hl 2 rfl) ?_
    refine lv_icmp_ge (tgt := 39) hx hb dX0_run_18 (by decide) (fun h9 => absurd h9 (nI_ge (a := i) (b := bf_n x) hi (by omega))) (fun _ => ?_)
    refine lv_aload hx hb dX0_run_21 (lv_at hl 3 rfl) ?_
    refine lv_iload hx hb dX0_run_23 (lv_at hl 4 rfl) ?_
    refine lv_aload_n hx hb dX0_run_25 rfl (lv_at hl 0 rfl) ?_
    refine va_get (D := (dC, dI)) (ci := 0) (v := .ref k0) (C := RX0) (T := TX0) (N := 3) hx hb hts in_X0 hown hK hP 0 rfl rfl 0 (by decide) (hts _ q35) (fun _ h9 => h9) rfl dX0_run_26 ?_
    refine lv_iload hx hb dX0_run_29 (lv_at hl 4 rfl) ?_
    refine bf_bald hx hb hK hP 1 0 rfl rfl dX0_run_31 i rfl (by omega) (Nat.le_of_ble_eq_true rfl) ?_
    refine bf_bast hx hb hK hP hD hS 4 0 rfl rfl dX0_run_32 i rfl hi (by omega) ((K i).toInt8.toInt32) rfl (fun H locs hP hD hS => ?_)
    have hP : va_P (dC, dI) vwCl [(h0, .inr (0, [.ref k0, .ref b0, .ref o0])), (k0, .inl (cB, 32, .inl K)), (b0, .inl (cB, 8, .inl B)), (o0, .inl (cB, 8, .inl O)), (q, .inl (cB, (bf_n x), .inl (upd (bf_cp (fun _ => 0) K i) i ((K i).toInt8.toInt32))))] H := hP
    have hD : va_D A [(h0, .inr (0, [.ref k0, .ref b0, .ref o0])), (k0, .inl (cB, 32, .inl K)), (b0, .inl (cB, 8, .inl B)), (o0, .inl (cB, 8, .inl O)), (q, .inl (cB, (bf_n x), .inl (upd (bf_cp (fun _ => 0) K i) i ((K i).toInt8.toInt32))))] := hD
    rw [bf_cp_s] at hP hD
    refine lv_iinc (v := nI (i + 1)) (lv' := [(5, .int (nI (i + 1))), (0, .ref h0), (1, .int 1), (3, .int (nI (bf_n x))), (4, .ref q)]) hx hb dX0_run_33 hl (k := 4) rfl (nI_add i 1) (by decide) rfl (fun ls hl => ?_)
    refine lv_goto (tgt := 15) hx hb dX0_run_36 (by decide) ?_
    exact ih H locs ls ⟨hP, hD, hS, lv_sub hl [1, 2, 3, 4, 0] rfl⟩
set_option maxHeartbeats 4000000 in
set_option maxRecDepth 100000 in
/-- run(false, kind) -/
theorem met_X0_run_0 (l : Launch) (dC : Nat → ClassId) (dI : Nat → Nat → Nat) (cB cI : ClassId) (tS : Nat → Nat) (sz : Nat) (h0 k0 b0 o0 : Nat) (K B O : Nat → Int32) (x : Int32) : Met l yX0_run (ws_ yX0_run cX0_run 6 none) ({ frames := 4, cells := 9, slots := 1098, locals := 95 }) (va_Pc [.ref h0, .int 0, .int x] (bfPreX (dC, dI) cB cI tS [(h0, .inr (0, [.ref k0, .ref b0, .ref o0])), (k0, .inl (cB, 32, .inl K)), (b0, .inl (cB, 8, .inl B)), (o0, .inl (cB, 8, .inl O))] sz)) (va_Qv (fun _ : Unit => True) (fun _ t => bfPost (dC, dI) [(h0, .inr (0, [.ref k0, .ref b0, .ref o0])), (k0, .inl (cB, 32, .inl K)), (b0, .inl (cB, 8, .inl B)), (o0, .inl (cB, 8, .inl (bf_out bf_PI K B O (bf_n x) false)))] (va_A [(h0, .inr (0, [.ref k0, .ref b0, .ref o0])), (k0, .inl (cB, 32, .inl K)), (b0, .inl (cB, 8, .inl B)), (o0, .inl (cB, 8, .inl O))] sz) t) (va_A [(h0, .inr (0, [.ref k0, .ref b0, .ref o0])), (k0, .inl (cB, 32, .inl K)), (b0, .inl (cB, 8, .inl B)), (o0, .inl (cB, 8, .inl O))] sz)) 9 1098 (va_A [(h0, .inr (0, [.ref k0, .ref b0, .ref o0])), (k0, .inl (cB, 32, .inl K)), (b0, .inl (cB, 8, .inl B)), (o0, .inl (cB, 8, .inl O))] sz) := by
  refine Met.ofW (cc := cX0_run) (maxL := 6) (ret := none) (by decide) rfl ?_
  intro p e s m args below meth c s₁ hBo hml hv
  obtain ⟨rfl, ⟨hsz, hP, hK, hD0⟩, hX⟩ := hv
  have hx := hBo.exec
  have hb := hBo.bytes
  have hr := hBo.returns
  have hts := atoms_spec (ws := (ws_ yX0_run cX0_run 6 none)) hBo.pre
  have hts : ∀ w ∈ lw_all, w.before _ s = true := fun w h => hts w (List.mem_cons_of_mem _ h)
  have hown : s.vm.findClass RX0 = some m.cls := findClass_of_methodNamed hBo.named
  have hlocks := hBo.notSynchronized
  subst hsz
  have hD := hD0.self (sz := s.heap.size)
  generalize hAe : va_A [(h0, .inr (0, [.ref k0, .ref b0, .ref o0])), (k0, .inl (cB, 32, .inl K)), (b0, .inl (cB, 8, .inl B)), (o0, .inl (cB, 8, .inl O))] s.heap.size = A at hD ⊢ hX
  have hA : ∀ q : Nat, s.heap.size ≤ q → A q := fun q h => by rw [← hAe]; exact Or.inr h
  have hS : va_S A s.heap s.heap [] := va_S.rf
  have hl := lv_entry ([.ref h0, .int 0, .int x]) (n := 6) (Nat.le_of_ble_eq_true rfl)
  rw [lg_entry_eq]
  generalize (lg_sl ([.ref h0, .int 0, .int x]) ++ List.replicate (6 - (lg_sl ([.ref h0, .int 0, .int x])).length) Slot.unset).toArray = ls at hl ⊢
  have hl : lv_has ls 6 [(0, .ref h0), (1, .int 0), (2, .int x)] := hl
  have hn8 := bf_n_ge x
  have hn24 := bf_n_le x
  refine lv_iload_n hx hb dX0_run_0 rfl (lv_at hl 2 rfl) ?_
  refine lv_iconst (v := 3) hx hb dX0_run_1 (by decide) ?_
  refine lv_iand hx hb dX0_run_2 ?_
  refine bf_topE (y := nI (x.toBitVec.toNat % 2 ^ 2)) (pk_and x 2 (by decide)) ?_
  refine bf_calli (va_Run.run (va_runS (As := [.int (nI (x.toBitVec.toNat % 2 ^ 2))]) (rest := []) ⟨hx, hb, hml, hown, hts⟩ (met_X0_size l dC dI cB cI (nI (x.toBitVec.toNat % 2 ^ 2))) (va_cwS 1 hts (lw_S q65 q66 q14 q67) rfl rfl rfl (by decide +kernel) ⟨Nat.le_of_ble_eq_true rfl, Nat.le_of_ble_eq_true rfl⟩) (bf_rdS hK hP [] rfl) rfl rfl hl.1 rfl (lv_room (Nat.le_of_ble_eq_true rfl)) dX0_run_3 ⟨Nat.le_of_ble_eq_true rfl, Nat.le_of_ble_eq_true rfl⟩)) ?_
  refine bf_topE (y := nI (bf_n x)) (by rw [bf_n_3]) ?_
  refine lv_istore_n (lv' := [(3, .int (nI (bf_n x))), (0, .ref h0), (1, .int 0), (2, .int x)]) hx hb dX0_run_6 rfl hl (by decide) rfl (fun ls hl => ?_)
  refine lv_iload_n hx hb dX0_run_7 rfl (lv_at hl 0 rfl) ?_
  refine bf_newa (atype := .byte) hx hb (hts _ q45) rfl hK 0 rfl (fun z z' h h' => Option.some.inj (h.symm.trans h')) hP hD hS hA dX0_run_8 (bf_n x) rfl (by omega) ((bf_n x), .inl (fun _ => 0)) (fun _ => rfl) (by show bf_n x * 1 ≤ _; omega) (Nat.le_of_ble_eq_true rfl) (by show 0 + bf_n x ≤ 1098; omega) (fun q H hP hD hS => ?_)
  have hP : va_P (dC, dI) vwCl [(h0, .inr (0, [.ref k0, .ref b0, .ref o0])), (k0, .inl (cB, 32, .inl K)), (b0, .inl (cB, 8, .inl B)), (o0, .inl (cB, 8, .inl O)), (q, .inl (cB, (bf_n x), .inl (fun _ => 0)))] H := hP
  have hD : va_D A [(h0, .inr (0, [.ref k0, .ref b0, .ref o0])), (k0, .inl (cB, 32, .inl K)), (b0, .inl (cB, 8, .inl B)), (o0, .inl (cB, 8, .inl O)), (q, .inl (cB, (bf_n x), .inl (fun _ => 0)))] := hD
  refine W.widen (k := 1) (n := 24) (Nat.le_of_ble_eq_true rfl) (by omega) ?_
  refine lv_astore (lv' := [(4, .ref q), (3, .int (nI (bf_n x))), (0, .ref h0), (1, .int 0), (2, .int x)]) hx hb dX0_run_10 hl (by decide) rfl (fun ls hl => ?_)
  refine lv_iconst (v := 0) hx hb dX0_run_12 (by decide) ?_
  refine lv_istore (lv' := [(5, .int 0), (4, .ref q), (3, .int (nI (bf_n x))), (0, .ref h0), (1, .int 0), (2, .int x)]) hx hb dX0_run_13 hl (by decide) rfl (fun ls hl => ?_)
  have hP : va_P (dC, dI) vwCl [(h0, .inr (0, [.ref k0, .ref b0, .ref o0])), (k0, .inl (cB, 32, .inl K)), (b0, .inl (cB, 8, .inl B)), (o0, .inl (cB, 8, .inl O)), (q, .inl (cB, (bf_n x), .inl (bf_cp (fun _ => 0) K 0)))] H := by rw [bf_cp_0]; exact hP
  have hD : va_D A [(h0, .inr (0, [.ref k0, .ref b0, .ref o0])), (k0, .inl (cB, 32, .inl K)), (b0, .inl (cB, 8, .inl B)), (o0, .inl (cB, 8, .inl O)), (q, .inl (cB, (bf_n x), .inl (bf_cp (fun _ => 0) K 0)))] := by rw [bf_cp_0]; exact hD
  have hl := lv_sub (l' := [(0, .ref h0), (1, .int 0), (3, .int (nI (bf_n x))), (4, .ref q), (5, .int 0)]) hl [3, 4, 2, 1, 0] rfl
  refine bf_while (bf_n x) (fun i H locs ls => va_P (dC, dI) vwCl [(h0, .inr (0, [.ref k0, .ref b0, .ref o0])), (k0, .inl (cB, 32, .inl K)), (b0, .inl (cB, 8, .inl B)), (o0, .inl (cB, 8, .inl O)), (q, .inl (cB, (bf_n x), .inl (bf_cp (fun _ => 0) K i)))] H ∧ va_D A [(h0, .inr (0, [.ref k0, .ref b0, .ref o0])), (k0, .inl (cB, 32, .inl K)), (b0, .inl (cB, 8, .inl B)), (o0, .inl (cB, 8, .inl O)), (q, .inl (cB, (bf_n x), .inl (bf_cp (fun _ => 0) K i)))] ∧ va_S A s.heap H locs ∧ lv_has ls 6 [(0, .ref h0), (1, .int 0), (3, .int (nI (bf_n x))), (4, .ref q), (5, .int (nI i))]) (fun _ => 1) (fun _ => 24) 0 (Nat.zero_le _) ⟨hP, hD, hS, hl⟩ (fun H locs ls hI => ?_) (fun i hi ih H locs ls hI => ?_)
  · obtain ⟨hP, hD, hS, hl⟩ := hI
    refine lv_iload hx hb dX0_run_15 (lv_at hl 4 rfl) ?_
    refine lv_iload_n hx hb dX0_run_17 rfl (lv_at hl 2 rfl) ?_
    refine lv_icmp_ge (tgt := 39) hx hb dX0_run_18 (by decide) (fun _ => ?_) (fun h9 => absurd (Int32.le_refl _) h9)
    refine va_new (ci := 2) (fs := [.null, .null, .null, .null, .null, .int 0, .null]) (C := RX2) (T := TX2) (N := 7) hx hb hts in_X2 tyX2 tyX2_ok hown (hts _ q68) (hts _ q69) (hts _ q16) hK hP hD hS hA rfl (fun j hj => by rcases (show j = 0 ∨ j = 1 ∨ j = 2 ∨ j = 3 ∨ j = 4 ∨ j = 5 ∨ j = 6 by omega) with rfl | rfl | rfl | rfl | rfl | rfl | rfl <;> rfl) (Nat.le_of_ble_eq_true rfl) (Nat.le_of_ble_eq_true rfl) dX0_run_39 (fun e0 H hP hD hS => ?_)
    have hP : va_P (dC, dI) vwCl [(h0, .inr (0, [.ref k0, .ref b0, .ref o0])), (k0, .inl (cB, 32, .inl K)), (b0, .inl (cB, 8, .inl B)), (o0, .inl (cB, 8, .inl O)), (q, .inl (cB, (bf_n x), .inl (bf_cp (fun _ => 0) K (bf_n x)))), (e0, .inr (2, [.null, .null, .null, .null, .null, .int 0, .null]))] H := hP
    have hD : va_D A [(h0, .inr (0, [.ref k0, .ref b0, .ref o0])), (k0, .inl (cB, 32, .inl K)), (b0, .inl (cB, 8, .inl B)), (o0, .inl (cB, 8, .inl O)), (q, .inl (cB, (bf_n x), .inl (bf_cp (fun _ => 0) K (bf_n x)))), (e0, .inr (2, [.null, .null, .null, .null, .null, .int 0, .null]))] := hD
    refine lv_dup hx hb dX0_run_42 rfl ?_
    refine bf_callv (wr := [(h0, .inr (0, [.ref k0, .ref b0, .ref o0])), (k0, .inl (cB, 32, .inl K)), (b0, .inl (cB, 8, .inl B)), (o0, .inl (cB, 8, .inl O)), (q, .inl (cB, (bf_n x), .inl (bf_cp (fun _ => 0) K (bf_n x))))]) (va_runI (As := []) (rest := [.ref e0]) ⟨hx, hb, hml, hown, hts⟩ (met_X2_init l dC dI cB cI H.size e0) (cwI 0 hts (lw_meth q72) rfl rfl rfl (hts _ q16) (hts _ q70) (hts _ q71) rfl (by decide +kernel) ⟨Nat.le_of_ble_eq_true rfl, Nat.le_of_ble_eq_true rfl⟩) (bf_preS hK hP hD [5] (by decide) rfl) rfl rfl hl.1 rfl (lv_room (Nat.le_of_ble_eq_true rfl)) dX0_run_43 ⟨Nat.le_of_ble_eq_true rfl, Nat.le_of_ble_eq_true rfl⟩) hP hD hS hA [5] [0, 1, 2, 3, 4] rfl rfl (by decide) (by decide) (fun u H locs hP hD hS => ?_)
    obtain ⟨a0, a1, a2, a3, a4⟩ := u
    have hP : va_P (dC, dI) vwCl [(h0, .inr (0, [.ref k0, .ref b0, .ref o0])), (k0, .inl (cB, 32, .inl K)), (b0, .inl (cB, 8, .inl B)), (o0, .inl (cB, 8, .inl O)), (q, .inl (cB, (bf_n x), .inl (bf_cp (fun _ => 0) K (bf_n x)))), (e0, .inr (2, [.ref a0, .ref a1, .ref a2, .ref a3, .ref a4, .int 0, .null])), (a0, .inl (cI, 256, .inl (fun _ => 0))), (a1, .inl (cI, 256, .inl (fun _ => 0))), (a2, .inl (cI, 256, .inl (fun _ => 0))), (a3, .inl (cI, 256, .inl (fun _ => 0))), (a4, .inl (cI, 18, .inl (fun _ => 0)))] H := hP
    have hD : va_D A [(h0, .inr (0, [.ref k0, .ref b0, .ref o0])), (k0, .inl (cB, 32, .inl K)), (b0, .inl (cB, 8, .inl B)), (o0, .inl (cB, 8, .inl O)), (q, .inl (cB, (bf_n x), .inl (bf_cp (fun _ => 0) K (bf_n x)))), (e0, .inr (2, [.ref a0, .ref a1, .ref a2, .ref a3, .ref a4, .int 0, .null])), (a0, .inl (cI, 256, .inl (fun _ => 0))), (a1, .inl (cI, 256, .inl (fun _ => 0))), (a2, .inl (cI, 256, .inl (fun _ => 0))), (a3, .inl (cI, 256, .inl (fun _ => 0))), (a4, .inl (cI, 18, .inl (fun _ => 0)))] := hD
    refine lv_astore (lv' := [(5, .ref e0), (0, .ref h0), (1, .int 0), (3, .int (nI (bf_n x))), (4, .ref q)]) hx hb dX0_run_46 hl (by decide) rfl (fun ls hl => ?_)
    refine lv_aload hx hb dX0_run_48 (lv_at hl 0 rfl) ?_
    refine lv_iload_n hx hb dX0_run_50 rfl (lv_at hl 2 rfl) ?_
    refine va_new (ci := 3) (fs := [.null]) (C := RX3) (T := TX3) (N := 1) hx hb hts in_X3 tyX3 tyX3_ok hown (hts _ q97) (hts _ q98) (hts _ q17) hK hP hD hS hA rfl (fun j hj => by rcases (show j = 0 by omega) with rfl <;> rfl) (Nat.le_of_ble_eq_true rfl) (Nat.le_of_ble_eq_true rfl) dX0_run_51 (fun kp H hP hD hS => ?_)
    have hP : va_P (dC, dI) vwCl [(h0, .inr (0, [.ref k0, .ref b0, .ref o0])), (k0, .inl (cB, 32, .inl K)), (b0, .inl (cB, 8, .inl B)), (o0, .inl (cB, 8, .inl O)), (q, .inl (cB, (bf_n x), .inl (bf_cp (fun _ => 0) K (bf_n x)))), (e0, .inr (2, [.ref a0, .ref a1, .ref a2, .ref a3, .ref a4, .int 0, .null])), (a0, .inl (cI, 256, .inl (fun _ => 0))), (a1, .inl (cI, 256, .inl (fun _ => 0))), (a2, .inl (cI, 256, .inl (fun _ => 0))), (a3, .inl (cI, 256, .inl (fun _ => 0))), (a4, .inl (cI, 18, .inl (fun _ => 0))), (kp, .inr (3, [.null]))] H := hP
    have hD : va_D A [(h0, .inr (0, [.ref k0, .ref b0, .ref o0])), (k0, .inl (cB, 32, .inl K)), (b0, .inl (cB, 8, .inl B)), (o0, .inl (cB, 8, .inl O)), (q, .inl (cB, (bf_n x), .inl (bf_cp (fun _ => 0) K (bf_n x)))), (e0, .inr (2, [.ref a0, .ref a1, .ref a2, .ref a3, .ref a4, .int 0, .null])), (a0, .inl (cI, 256, .inl (fun _ => 0))), (a1, .inl (cI, 256, .inl (fun _ => 0))), (a2, .inl (cI, 256, .inl (fun _ => 0))), (a3, .inl (cI, 256, .inl (fun _ => 0))), (a4, .inl (cI, 18, .inl (fun _ => 0))), (kp, .inr (3, [.null]))] := hD
    refine lv_dup hx hb dX0_run_54 rfl ?_
    refine lv_aload hx hb dX0_run_55 (lv_at hl 4 rfl) ?_
    have hfit : ∀ i, i < bf_n x → fits .byte (.int (bf_cp (fun _ => 0) K (bf_n x) i)) = true := fun i hi => by unfold bf_cp; rw [if_pos hi]; exact pk_fb _
    refine bf_callv (wr := [(h0, .inr (0, [.ref k0, .ref b0, .ref o0])), (k0, .inl (cB, 32, .inl K)), (b0, .inl (cB, 8, .inl B)), (o0, .inl (cB, 8, .inl O)), (e0, .inr (2, [.ref a0, .ref a1, .ref a2, .ref a3, .ref a4, .int 0, .null])), (a0, .inl (cI, 256, .inl (fun _ => 0))), (a1, .inl (cI, 256, .inl (fun _ => 0))), (a2, .inl (cI, 256, .inl (fun _ => 0))), (a3, .inl (cI, 256, .inl (fun _ => 0))), (a4, .inl (cI, 18, .inl (fun _ => 0)))]) (va_runI (As := [.ref q]) (rest := [.ref kp, .int 0, .ref e0]) ⟨hx, hb, hml, hown, hts⟩ (met_X3_init l dC dI cB cI H.size kp q (bf_n x) (bf_cp (fun _ => 0) K (bf_n x)) hn24 hfit) (cwI 1 hts (lw_meth q101) rfl rfl rfl (hts _ q17) (hts _ q99) (hts _ q100) rfl (by decide +kernel) ⟨Nat.le_of_ble_eq_true rfl, Nat.le_of_ble_eq_true rfl⟩) (bf_preS hK hP hD [11, 4] (by decide) rfl) rfl rfl hl.1 rfl (lv_room (Nat.le_of_ble_eq_true rfl)) dX0_run_57 ⟨Nat.le_of_ble_eq_true rfl, Nat.le_of_ble_eq_true rfl⟩) hP hD hS hA [11, 4] [0, 1, 2, 3, 5, 6, 7, 8, 9, 10] rfl rfl (by decide) (by decide) (fun kb H locs hP hD hS => ?_)
    have hP : va_P (dC, dI) vwCl [(h0, .inr (0, [.ref k0, .ref b0, .ref o0])), (k0, .inl (cB, 32, .inl K)), (b0, .inl (cB, 8, .inl B)), (o0, .inl (cB, 8, .inl O)), (e0, .inr (2, [.ref a0, .ref a1, .ref a2, .ref a3, .ref a4, .int 0, .null])), (a0, .inl (cI, 256, .inl (fun _ => 0))), (a1, .inl (cI, 256, .inl (fun _ => 0))), (a2, .inl (cI, 256, .inl (fun _ => 0))), (a3, .inl (cI, 256, .inl (fun _ => 0))), (a4, .inl (cI, 18, .inl (fun _ => 0))), (q, .inl (cB, (bf_n x), .inl (bf_cp (fun _ => 0) K (bf_n x)))), (kp, .inr (3, [.ref kb])), (kb, .inl (cB, (bf_n x), .inl (bf_cp (fun _ => 0) K (bf_n x))))] H := hP
    have hD : va_D A [(h0, .inr (0, [.ref k0, .ref b0, .ref o0])), (k0, .inl (cB, 32, .inl K)), (b0, .inl (cB, 8, .inl B)), (o0, .inl (cB, 8, .inl O)), (e0, .inr (2, [.ref a0, .ref a1, .ref a2, .ref a3, .ref a4, .int 0, .null])), (a0, .inl (cI, 256, .inl (fun _ => 0))), (a1, .inl (cI, 256, .inl (fun _ => 0))), (a2, .inl (cI, 256, .inl (fun _ => 0))), (a3, .inl (cI, 256, .inl (fun _ => 0))), (a4, .inl (cI, 18, .inl (fun _ => 0))), (q, .inl (cB, (bf_n x), .inl (bf_cp (fun _ => 0) K (bf_n x)))), (kp, .inr (3, [.ref kb])), (kb, .inl (cB, (bf_n x), .inl (bf_cp (fun _ => 0) K (bf_n x))))] := hD
    refine bf_callFv (wr := [(h0, .inr (0, [.ref k0, .ref b0, .ref o0])), (k0, .inl (cB, 32, .inl K)), (b0, .inl (cB, 8, .inl B)), (o0, .inl (cB, 8, .inl O)), (q, .inl (cB, (bf_n x), .inl (bf_cp (fun _ => 0) K (bf_n x))))]) (va_runF (hK.1 2 _ rfl).2 (As := [.int 0, .ref kp]) (rest := []) ⟨hx, hb, hml, hown, hts⟩ (met_X2_init_2_0 l dC dI cB cI tS H.size e0 a0 a1 a2 a3 a4 kp kb (bf_n x) 0 .null (fun _ => 0) (fun _ => 0) (fun _ => 0) (fun _ => 0) (fun _ => 0) (bf_cp (fun _ => 0) K (bf_n x)) (by omega) (by omega)) (va_cwF 2 hts (bf_lwF q117 q121 q123 q16 q125) rfl rfl rfl hX.2.2.2.2.2.2.1 (by decide +kernel) ⟨Nat.le_of_ble_eq_true rfl, Nat.le_of_ble_eq_true rfl⟩) (bf_preVX hK hP hD [4, 5, 6, 7, 8, 9, 11, 12] (by decide) rfl (ci := 2) (q0 := 4) rfl rfl hX hS hA) rfl rfl hl.1 rfl (lv_room (Nat.le_of_ble_eq_true rfl)) dX0_run_60 ⟨Nat.le_of_ble_eq_true rfl, Nat.le_of_ble_eq_true rfl⟩) hP hD hS hA [4, 5, 6, 7, 8, 9, 11, 12] [0, 1, 2, 3, 10] rfl rfl (by decide) (by decide) (fun _ H locs hP hD hS => ?_)
    have hP : va_P (dC, dI) vwCl [(h0, .inr (0, [.ref k0, .ref b0, .ref o0])), (k0, .inl (cB, 32, .inl K)), (b0, .inl (cB, 8, .inl B)), (o0, .inl (cB, 8, .inl O)), (q, .inl (cB, (bf_n x), .inl (bf_cp (fun _ => 0) K (bf_n x)))), (kp, .inr (3, [.ref kb])), (e0, .inr (2, [.ref a0, .ref a1, .ref a2, .ref a3, .ref a4, .int 0, .ref kb])), (a0, .inl (cI, 256, .inl (fun k => (bf_sch bf_PI (bf_cp (fun _ => 0) K (bf_n x)) (bf_n x)) (18 + k)))), (a1, .inl (cI, 256, .inl (fun k => (bf_sch bf_PI (bf_cp (fun _ => 0) K (bf_n x)) (bf_n x)) (274 + k)))), (a2, .inl (cI, 256, .inl (fun k => (bf_sch bf_PI (bf_cp (fun _ => 0) K (bf_n x)) (bf_n x)) (530 + k)))), (a3, .inl (cI, 256, .inl (fun k => (bf_sch bf_PI (bf_cp (fun _ => 0) K (bf_n x)) (bf_n x)) (786 + k)))), (a4, .inl (cI, 18, .inl (bf_sch bf_PI (bf_cp (fun _ => 0) K (bf_n x)) (bf_n x)))), (kb, .inl (cB, (bf_n x), .inl (bf_cp (fun _ => 0) K (bf_n x))))] H := hP
    have hD : va_D A [(h0, .inr (0, [.ref k0, .ref b0, .ref o0])), (k0, .inl (cB, 32, .inl K)), (b0, .inl (cB, 8, .inl B)), (o0, .inl (cB, 8, .inl O)), (q, .inl (cB, (bf_n x), .inl (bf_cp (fun _ => 0) K (bf_n x)))), (kp, .inr (3, [.ref kb])), (e0, .inr (2, [.ref a0, .ref a1, .ref a2, .ref a3, .ref a4, .int 0, .ref kb])), (a0, .inl (cI, 256, .inl (fun k => (bf_sch bf_PI (bf_cp (fun _ => 0) K (bf_n x)) (bf_n x)) (18 + k)))), (a1, .inl (cI, 256, .inl (fun k => (bf_sch bf_PI (bf_cp (fun _ => 0) K (bf_n x)) (bf_n x)) (274 + k)))), (a2, .inl (cI, 256, .inl (fun k => (bf_sch bf_PI (bf_cp (fun _ => 0) K (bf_n x)) (bf_n x)) (530 + k)))), (a3, .inl (cI, 256, .inl (fun k => (bf_sch bf_PI (bf_cp (fun _ => 0) K (bf_n x)) (bf_n x)) (786 + k)))), (a4, .inl (cI, 18, .inl (bf_sch bf_PI (bf_cp (fun _ => 0) K (bf_n x)) (bf_n x)))), (kb, .inl (cB, (bf_n x), .inl (bf_cp (fun _ => 0) K (bf_n x))))] := hD
    rw [show bf_sch bf_PI (bf_cp (fun _ => 0) K (bf_n x)) (bf_n x) = bf_sch bf_PI K (bf_n x) from bf_sch_congr (by omega) (fun j hj => by unfold bf_cp; rw [if_pos hj]; exact bp_b _)] at hP hD
    refine lv_aload hx hb dX0_run_65 (lv_at hl 0 rfl) ?_
    refine lv_aload_n hx hb dX0_run_67 rfl (lv_at hl 1 rfl) ?_
    refine va_get (D := (dC, dI)) (ci := 0) (v := .ref b0) (C := RX0) (T := TX0) (N := 3) hx hb hts in_X0 hown hK hP 0 rfl rfl 1 (by decide) (hts _ q36) (fun _ h9 => h9) rfl dX0_run_68 ?_
    refine lv_iconst (v := 0) hx hb dX0_run_71 (by decide) ?_
    refine lv_aload_n hx hb dX0_run_72 rfl (lv_at hl 1 rfl) ?_
    refine va_get (D := (dC, dI)) (ci := 0) (v := .ref o0) (C := RX0) (T := TX0) (N := 3) hx hb hts in_X0 hown hK hP 0 rfl rfl 2 (by decide) (hts _ q37) (fun _ h9 => h9) rfl dX0_run_73 ?_
    refine lv_iconst (v := 0) hx hb dX0_run_76 (by decide) ?_
    refine bf_callFi (wr := [(h0, .inr (0, [.ref k0, .ref b0, .ref o0])), (k0, .inl (cB, 32, .inl K)), (q, .inl (cB, (bf_n x), .inl (bf_cp (fun _ => 0) K (bf_n x)))), (kp, .inr (3, [.ref kb])), (kb, .inl (cB, (bf_n x), .inl (bf_cp (fun _ => 0) K (bf_n x))))]) (va_runF (hK.1 2 _ rfl).2 (As := [.ref b0, .int 0, .ref o0, .int 0]) (rest := []) ⟨hx, hb, hml, hown, hts⟩ (met_X2_processBlock_0 l dC dI cB cI H.size e0 a0 a1 a2 a3 a4 kb b0 o0 (bf_sch bf_PI K (bf_n x)) B O) (va_cwF 4 hts (bf_lwF q224 q227 q229 q16 q231) rfl rfl rfl hX.2.2.2.2.2.2.2 (by decide +kernel) ⟨Nat.le_of_ble_eq_true rfl, Nat.le_of_ble_eq_true rfl⟩) (bf_preV hK hP hD [6, 7, 8, 9, 10, 11, 2, 3] (by decide) rfl (ci := 2) (q0 := 6) rfl rfl) rfl rfl hl.1 rfl (lv_room (Nat.le_of_ble_eq_true rfl)) dX0_run_77 ⟨Nat.le_of_ble_eq_true rfl, Nat.le_of_ble_eq_true rfl⟩) hP hD hS hA [6, 7, 8, 9, 10, 11, 2, 3] [0, 1, 4, 5, 12] rfl rfl (by decide) (by decide) (fun r9 _ H locs hP hD hS => ?_)
    have hP : va_P (dC, dI) vwCl [(h0, .inr (0, [.ref k0, .ref b0, .ref o0])), (k0, .inl (cB, 32, .inl K)), (q, .inl (cB, (bf_n x), .inl (bf_cp (fun _ => 0) K (bf_n x)))), (kp, .inr (3, [.ref kb])), (kb, .inl (cB, (bf_n x), .inl (bf_cp (fun _ => 0) K (bf_n x)))), (e0, .inr (2, [.ref a0, .ref a1, .ref a2, .ref a3, .ref a4, .int 0, .ref kb])), (a0, .inl (cI, 256, .inl (fun k => (bf_sch bf_PI K (bf_n x)) (18 + k)))), (a1, .inl (cI, 256, .inl (fun k => (bf_sch bf_PI K (bf_n x)) (274 + k)))), (a2, .inl (cI, 256, .inl (fun k => (bf_sch bf_PI K (bf_n x)) (530 + k)))), (a3, .inl (cI, 256, .inl (fun k => (bf_sch bf_PI K (bf_n x)) (786 + k)))), (a4, .inl (cI, 18, .inl (bf_sch bf_PI K (bf_n x)))), (b0, .inl (cB, 8, .inl B)), (o0, .inl (cB, 8, .inl (bf_put (bf_put O 0 (bf_cr (bf_sch bf_PI K (bf_n x)) (fun i => (bf_sch bf_PI K (bf_n x)) (17 - i)) (bf_wd B 0 4) (bf_wd B 4 4)).1) 4 (bf_cr (bf_sch bf_PI K (bf_n x)) (fun i => (bf_sch bf_PI K (bf_n x)) (17 - i)) (bf_wd B 0 4) (bf_wd B 4 4)).2)))] H := hP
    have hD : va_D A [(h0, .inr (0, [.ref k0, .ref b0, .ref o0])), (k0, .inl (cB, 32, .inl K)), (q, .inl (cB, (bf_n x), .inl (bf_cp (fun _ => 0) K (bf_n x)))), (kp, .inr (3, [.ref kb])), (kb, .inl (cB, (bf_n x), .inl (bf_cp (fun _ => 0) K (bf_n x)))), (e0, .inr (2, [.ref a0, .ref a1, .ref a2, .ref a3, .ref a4, .int 0, .ref kb])), (a0, .inl (cI, 256, .inl (fun k => (bf_sch bf_PI K (bf_n x)) (18 + k)))), (a1, .inl (cI, 256, .inl (fun k => (bf_sch bf_PI K (bf_n x)) (274 + k)))), (a2, .inl (cI, 256, .inl (fun k => (bf_sch bf_PI K (bf_n x)) (530 + k)))), (a3, .inl (cI, 256, .inl (fun k => (bf_sch bf_PI K (bf_n x)) (786 + k)))), (a4, .inl (cI, 18, .inl (bf_sch bf_PI K (bf_n x)))), (b0, .inl (cB, 8, .inl B)), (o0, .inl (cB, 8, .inl (bf_put (bf_put O 0 (bf_cr (bf_sch bf_PI K (bf_n x)) (fun i => (bf_sch bf_PI K (bf_n x)) (17 - i)) (bf_wd B 0 4) (bf_wd B 4 4)).1) 4 (bf_cr (bf_sch bf_PI K (bf_n x)) (fun i => (bf_sch bf_PI K (bf_n x)) (17 - i)) (bf_wd B 0 4) (bf_wd B 4 4)).2)))] := hD
    rw [bf_out_0] at hP hD
    refine lv_pop hx hb dX0_run_82 rfl ?_
    have hP := hP.sub (ws' := [(h0, .inr (0, [.ref k0, .ref b0, .ref o0])), (k0, .inl (cB, 32, .inl K)), (b0, .inl (cB, 8, .inl B)), (o0, .inl (cB, 8, .inl (bf_out bf_PI K B O (bf_n x) false)))]) [0, 1, 11, 12] rfl
    have hD := hD.sub (ws' := [(h0, .inr (0, [.ref k0, .ref b0, .ref o0])), (k0, .inl (cB, 32, .inl K)), (b0, .inl (cB, 8, .inl B)), (o0, .inl (cB, 8, .inl (bf_out bf_PI K B O (bf_n x) false)))]) [0, 1, 11, 12] (by decide) rfl
    exact W.vret hx hb hr (fun t ht hW => ⟨⟨(), rfl, trivial, by rw [ht]; exact hP, hD⟩, hS.F ht⟩) hS.2.2 dX0_run_83
  · obtain ⟨hP, hD, hS, hl⟩ := hI
    refine lv_iload hx hb dX0_run_15 (lv_at hl 4 rfl) ?_
    refine lv_iload_n hx hb dX0_run_17 rfl (lv_at hl 2 rfl) ?_
    refine lv_icmp_ge (tgt := 39) hx hb dX0_run_18 (by decide) (fun h9 => absurd h9 (nI_ge (a := i) (b := bf_n x) hi (by omega))) (fun _ => ?_)
    refine lv_aload hx hb dX0_run_21 (lv_at hl 3 rfl) ?_
    refine lv_iload hx hb dX0_run_23 (lv_at hl 4 rfl) ?_
    refine lv_aload_n hx hb dX0_run_25 rfl (lv_at hl 0 rfl) ?_
    refine va_get (D := (dC, dI)) (ci := 0) (v := .ref k0) (C := RX0) (T := TX0) (N := 3) hx hb hts in_X0 hown hK hP 0 rfl rfl 0 (by decide) (hts _ q35) (fun _ h9 => h9) rfl dX0_run_26 ?_
    refine lv_iload hx hb dX0_run_29 (lv_at hl 4 rfl) ?_
    refine bf_bald hx hb hK hP 1 0 rfl rfl dX0_run_31 i rfl (by omega) (Nat.le_of_ble_eq_true rfl) ?_
    refine bf_bast hx hb hK hP hD hS 4 0 rfl rfl dX0_run_32 i rfl hi (by omega) ((K i).toInt8.toInt32) rfl (fun H locs hP hD hS => ?_)
    have hP : va_P (dC, dI) vwCl [(h0, .inr (0, [.ref k0, .ref b0, .ref o0])), (k0, .inl (cB, 32, .inl K)), (b0, .inl (cB, 8, .inl B)), (o0, .inl (cB, 8, .inl O)), (q, .inl (cB, (bf_n x), .inl (upd (bf_cp (fun _ => 0) K i) i ((K i).toInt8.toInt32))))] H := hP
    have hD : va_D A [(h0, .inr (0, [.ref k0, .ref b0, .ref o0])), (k0, .inl (cB, 32, .inl K)), (b0, .inl (cB, 8, .inl B)), (o0, .inl (cB, 8, .inl O)), (q, .inl (cB, (bf_n x), .inl (upd (bf_cp (fun _ => 0) K i) i ((K i).toInt8.toInt32))))] := hD
    rw [bf_cp_s] at hP hD
    refine lv_iinc (v := nI (i + 1)) (lv' := [(5, .int (nI (i + 1))), (0, .ref h0), (1, .int 0), (3, .int (nI (bf_n x))), (4, .ref q)]) hx hb dX0_run_33 hl (k := 4) rfl (nI_add i 1) (by decide) rfl (fun ls hl => ?_)
    refine lv_goto (tgt := 15) hx hb dX0_run_36 (by decide) ?_
    exact ih H locs ls ⟨hP, hD, hS, lv_sub hl [1, 2, 3, 4, 0] rfl⟩
set_option maxHeartbeats 4000000 in
set_option maxRecDepth 100000 in
/-- lock(kind) -/
theorem met_X0_lock (l : Launch) (dC : Nat → ClassId) (dI : Nat → Nat → Nat) (cB cI : ClassId) (tS : Nat → Nat) (sz : Nat) (h0 k0 b0 o0 : Nat) (K B O : Nat → Int32) (x : Int32) : Met l yX0_lock (ws_ yX0_lock cX0_lock 2 none) ({ frames := 5, cells := 9, slots := 1098, locals := 120 }) (va_Pc [.ref h0, .int x] (bfPreX (dC, dI) cB cI tS [(h0, .inr (0, [.ref k0, .ref b0, .ref o0])), (k0, .inl (cB, 32, .inl K)), (b0, .inl (cB, 8, .inl B)), (o0, .inl (cB, 8, .inl O))] sz)) (va_Qv (fun _ : Unit => True) (fun _ t => bfPost (dC, dI) [(h0, .inr (0, [.ref k0, .ref b0, .ref o0])), (k0, .inl (cB, 32, .inl K)), (b0, .inl (cB, 8, .inl B)), (o0, .inl (cB, 8, .inl (bf_out bf_PI K B O (bf_n x) true)))] (va_A [(h0, .inr (0, [.ref k0, .ref b0, .ref o0])), (k0, .inl (cB, 32, .inl K)), (b0, .inl (cB, 8, .inl B)), (o0, .inl (cB, 8, .inl O))] sz) t) (va_A [(h0, .inr (0, [.ref k0, .ref b0, .ref o0])), (k0, .inl (cB, 32, .inl K)), (b0, .inl (cB, 8, .inl B)), (o0, .inl (cB, 8, .inl O))] sz)) 9 1098 (va_A [(h0, .inr (0, [.ref k0, .ref b0, .ref o0])), (k0, .inl (cB, 32, .inl K)), (b0, .inl (cB, 8, .inl B)), (o0, .inl (cB, 8, .inl O))] sz) := by
  refine Met.ofW (cc := cX0_lock) (maxL := 2) (ret := none) (by decide) rfl ?_
  intro p e s m args below meth c s₁ hBo hml hv
  obtain ⟨rfl, ⟨hsz, hP, hK, hD0⟩, hX⟩ := hv
  have hx := hBo.exec
  have hb := hBo.bytes
  have hr := hBo.returns
  have hts := atoms_spec (ws := (ws_ yX0_lock cX0_lock 2 none)) hBo.pre
  have hts : ∀ w ∈ lw_all, w.before _ s = true := fun w h => hts w (List.mem_cons_of_mem _ h)
  have hown : s.vm.findClass RX0 = some m.cls := findClass_of_methodNamed hBo.named
  have hlocks := hBo.notSynchronized
  subst hsz
  have hD := hD0.self (sz := s.heap.size)
  generalize hAe : va_A [(h0, .inr (0, [.ref k0, .ref b0, .ref o0])), (k0, .inl (cB, 32, .inl K)), (b0, .inl (cB, 8, .inl B)), (o0, .inl (cB, 8, .inl O))] s.heap.size = A at hD ⊢ hX
  have hA : ∀ q : Nat, s.heap.size ≤ q → A q := fun q h => by rw [← hAe]; exact Or.inr h
  have hS : va_S A s.heap s.heap [] := va_S.rf
  have hl := lv_entry ([.ref h0, .int x]) (n := 2) (Nat.le_of_ble_eq_true rfl)
  rw [lg_entry_eq]
  generalize (lg_sl ([.ref h0, .int x]) ++ List.replicate (2 - (lg_sl ([.ref h0, .int x])).length) Slot.unset).toArray = ls at hl ⊢
  have hl : lv_has ls 2 [(0, .ref h0), (1, .int x)] := hl
  refine lv_aload_n hx hb dX0_lock_0 rfl (lv_at hl 0 rfl) ?_
  refine lv_iconst (v := 1) hx hb dX0_lock_1 (by decide) ?_
  refine lv_iload_n hx hb dX0_lock_2 rfl (lv_at hl 1 rfl) ?_
  refine bf_callv (wr := []) (va_runV (As := [.int 1, .int x]) (rest := []) ⟨hx, hb, hml, hown, hts⟩ (met_X0_run_1 l dC dI cB cI tS s.heap.size h0 k0 b0 o0 K B O x) (cwV 2 hts (lw_V q61 q63 qs0 q14 q64) rfl rfl rfl (by decide +kernel) ⟨Nat.le_of_ble_eq_true rfl, Nat.le_of_ble_eq_true rfl⟩) (bf_preVX hK hP hD [0, 1, 2, 3] (by decide) rfl (ci := 0) (q0 := 0) rfl rfl hX hS hA) rfl rfl hl.1 rfl (lv_room (Nat.le_of_ble_eq_true rfl)) dX0_lock_3 ⟨Nat.le_of_ble_eq_true rfl, Nat.le_of_ble_eq_true rfl⟩) hP hD hS hA [0, 1, 2, 3] [] rfl rfl (by decide) (by decide) (fun _ H locs hP hD hS => ?_)
  have hP : va_P (dC, dI) vwCl [(h0, .inr (0, [.ref k0, .ref b0, .ref o0])), (k0, .inl (cB, 32, .inl K)), (b0, .inl (cB, 8, .inl B)), (o0, .inl (cB, 8, .inl (bf_out bf_PI K B O (bf_n x) true)))] H := hP
  have hD : va_D A [(h0, .inr (0, [.ref k0, .ref b0, .ref o0])), (k0, .inl (cB, 32, .inl K)), (b0, .inl (cB, 8, .inl B)), (o0, .inl (cB, 8, .inl (bf_out bf_PI K B O (bf_n x) true)))] := hD
  exact W.vret hx hb hr (fun t ht hW => ⟨⟨(), rfl, trivial, by rw [ht]; exact hP, hD⟩, hS.F ht⟩) hS.2.2 dX0_lock_6
set_option maxHeartbeats 4000000 in
set_option maxRecDepth 100000 in
/-- open(kind) -/
theorem met_X0_open (l : Launch) (dC : Nat → ClassId) (dI : Nat → Nat → Nat) (cB cI : ClassId) (tS : Nat → Nat) (sz : Nat) (h0 k0 b0 o0 : Nat) (K B O : Nat → Int32) (x : Int32) : Met l yX0_open (ws_ yX0_open cX0_open 2 none) ({ frames := 5, cells := 9, slots := 1098, locals := 120 }) (va_Pc [.ref h0, .int x] (bfPreX (dC, dI) cB cI tS [(h0, .inr (0, [.ref k0, .ref b0, .ref o0])), (k0, .inl (cB, 32, .inl K)), (b0, .inl (cB, 8, .inl B)), (o0, .inl (cB, 8, .inl O))] sz)) (va_Qv (fun _ : Unit => True) (fun _ t => bfPost (dC, dI) [(h0, .inr (0, [.ref k0, .ref b0, .ref o0])), (k0, .inl (cB, 32, .inl K)), (b0, .inl (cB, 8, .inl B)), (o0, .inl (cB, 8, .inl (bf_out bf_PI K B O (bf_n x) false)))] (va_A [(h0, .inr (0, [.ref k0, .ref b0, .ref o0])), (k0, .inl (cB, 32, .inl K)), (b0, .inl (cB, 8, .inl B)), (o0, .inl (cB, 8, .inl O))] sz) t) (va_A [(h0, .inr (0, [.ref k0, .ref b0, .ref o0])), (k0, .inl (cB, 32, .inl K)), (b0, .inl (cB, 8, .inl B)), (o0, .inl (cB, 8, .inl O))] sz)) 9 1098 (va_A [(h0, .inr (0, [.ref k0, .ref b0, .ref o0])), (k0, .inl (cB, 32, .inl K)), (b0, .inl (cB, 8, .inl B)), (o0, .inl (cB, 8, .inl O))] sz) := by
  refine Met.ofW (cc := cX0_open) (maxL := 2) (ret := none) (by decide) rfl ?_
  intro p e s m args below meth c s₁ hBo hml hv
  obtain ⟨rfl, ⟨hsz, hP, hK, hD0⟩, hX⟩ := hv
  have hx := hBo.exec
  have hb := hBo.bytes
  have hr := hBo.returns
  have hts := atoms_spec (ws := (ws_ yX0_open cX0_open 2 none)) hBo.pre
  have hts : ∀ w ∈ lw_all, w.before _ s = true := fun w h => hts w (List.mem_cons_of_mem _ h)
  have hown : s.vm.findClass RX0 = some m.cls := findClass_of_methodNamed hBo.named
  have hlocks := hBo.notSynchronized
  subst hsz
  have hD := hD0.self (sz := s.heap.size)
  generalize hAe : va_A [(h0, .inr (0, [.ref k0, .ref b0, .ref o0])), (k0, .inl (cB, 32, .inl K)), (b0, .inl (cB, 8, .inl B)), (o0, .inl (cB, 8, .inl O))] s.heap.size = A at hD ⊢ hX
  have hA : ∀ q : Nat, s.heap.size ≤ q → A q := fun q h => by rw [← hAe]; exact Or.inr h
  have hS : va_S A s.heap s.heap [] := va_S.rf
  have hl := lv_entry ([.ref h0, .int x]) (n := 2) (Nat.le_of_ble_eq_true rfl)
  rw [lg_entry_eq]
  generalize (lg_sl ([.ref h0, .int x]) ++ List.replicate (2 - (lg_sl ([.ref h0, .int x])).length) Slot.unset).toArray = ls at hl ⊢
  have hl : lv_has ls 2 [(0, .ref h0), (1, .int x)] := hl
  refine lv_aload_n hx hb dX0_open_0 rfl (lv_at hl 0 rfl) ?_
  refine lv_iconst (v := 0) hx hb dX0_open_1 (by decide) ?_
  refine lv_iload_n hx hb dX0_open_2 rfl (lv_at hl 1 rfl) ?_
  refine bf_callv (wr := []) (va_runV (As := [.int 0, .int x]) (rest := []) ⟨hx, hb, hml, hown, hts⟩ (met_X0_run_0 l dC dI cB cI tS s.heap.size h0 k0 b0 o0 K B O x) (cwV 2 hts (lw_V q61 q63 qs0 q14 q64) rfl rfl rfl (by decide +kernel) ⟨Nat.le_of_ble_eq_true rfl, Nat.le_of_ble_eq_true rfl⟩) (bf_preVX hK hP hD [0, 1, 2, 3] (by decide) rfl (ci := 0) (q0 := 0) rfl rfl hX hS hA) rfl rfl hl.1 rfl (lv_room (Nat.le_of_ble_eq_true rfl)) dX0_open_3 ⟨Nat.le_of_ble_eq_true rfl, Nat.le_of_ble_eq_true rfl⟩) hP hD hS hA [0, 1, 2, 3] [] rfl rfl (by decide) (by decide) (fun _ H locs hP hD hS => ?_)
  have hP : va_P (dC, dI) vwCl [(h0, .inr (0, [.ref k0, .ref b0, .ref o0])), (k0, .inl (cB, 32, .inl K)), (b0, .inl (cB, 8, .inl B)), (o0, .inl (cB, 8, .inl (bf_out bf_PI K B O (bf_n x) false)))] H := hP
  have hD : va_D A [(h0, .inr (0, [.ref k0, .ref b0, .ref o0])), (k0, .inl (cB, 32, .inl K)), (b0, .inl (cB, 8, .inl B)), (o0, .inl (cB, 8, .inl (bf_out bf_PI K B O (bf_n x) false)))] := hD
  exact W.vret hx hb hr (fun t ht hW => ⟨⟨(), rfl, trivial, by rw [ht]; exact hP, hD⟩, hS.F ht⟩) hS.2.2 dX0_open_6
end
section
/-! BlowfishDeskModel -/
theorem bf_sh24 {j : Nat} (hj : j < 4) : (24 : Int32) - 8 * nI j = nI (24 - 8 * j) := by
  show nI 24 - nI 8 * nI j = _
  rw [pk_mul, pk_sub (by omega)]
theorem bf_at16 (x : Int32) : (16 : Int32) * nI (x.toBitVec.toNat % 2 ^ 1) = nI (bf_at x) := by
  show nI 16 * nI _ = _
  rw [pk_mul]
  unfold bf_at
  congr 1
  omega
theorem bf_n88 (x : Int32) : (8 : Int32) + 8 * nI (x.toBitVec.toNat % 4 % 3) = nI (bf_n x) := by
  show nI 8 + nI 8 * nI _ = _
  rw [pk_mul, nI_add]
  rfl
theorem bf_sub17 {i : Nat} (hi : i ≤ 17) : (17 : Int32) - nI i = nI (17 - i) := pk_sub (a := 17) hi
set_option maxHeartbeats 4000000 in
set_option maxRecDepth 100000 in
/-- put(to, k, x) -/
theorem met_X1_put (l : Launch) (dC : Nat → ClassId) (dI : Nat → Nat → Nat) (cB cI : ClassId) (sz : Nat) (ba n k : Nat) (x : Int32) (f : Nat → Int32) (hk : k + 4 ≤ n) (hn : n < 2 ^ 31) : Met l yX1_put (ws_ yX1_put cX1_put 4 none) ({ frames := 0, cells := 0, slots := 0, locals := 0 }) (va_Pc [.ref ba, .int (nI k), .int x] (bfPre (dC, dI) cB cI [(ba, .inl (cB, n, .inl f))] sz)) (va_Qv (fun _ : Unit => True) (fun _ t => bfPost (dC, dI) [(ba, .inl (cB, n, .inl (bf_put f k x)))] (va_A [(ba, .inl (cB, n, .inl f))] sz) t) (va_A [(ba, .inl (cB, n, .inl f))] sz)) 0 0 (va_A [(ba, .inl (cB, n, .inl f))] sz) := by
  refine Met.ofW (cc := cX1_put) (maxL := 4) (ret := none) (by decide) rfl ?_
  intro p e s m args below meth c s₁ hBo hml hv
  obtain ⟨rfl, hsz, hP, hK, hD0⟩ := hv
  have hx := hBo.exec
  have hb := hBo.bytes
  have hr := hBo.returns
  have hts := atoms_spec (ws := (ws_ yX1_put cX1_put 4 none)) hBo.pre
  have hts : ∀ w ∈ lw_all, w.before _ s = true := fun w h => hts w (List.mem_cons_of_mem _ h)
  have hown : s.vm.findClass RX1 = some m.cls := findClass_of_methodNamed hBo.named
  have hlocks := hBo.notSynchronized
  subst hsz
  have hD := hD0.self (sz := s.heap.size)
  generalize hAe : va_A [(ba, .inl (cB, n, .inl f))] s.heap.size = A at hD ⊢
  have hA : ∀ q : Nat, s.heap.size ≤ q → A q := fun q h => by rw [← hAe]; exact Or.inr h
  have hS : va_S A s.heap s.heap [] := va_S.rf
  have hl := lv_entry ([.ref ba, .int (nI k), .int x]) (n := 4) (Nat.le_of_ble_eq_true rfl)
  rw [lg_entry_eq]
  generalize (lg_sl ([.ref ba, .int (nI k), .int x]) ++ List.replicate (4 - (lg_sl ([.ref ba, .int (nI k), .int x])).length) Slot.unset).toArray = ls at hl ⊢
  have hl : lv_has ls 4 [(0, .ref ba), (1, .int (nI k)), (2, .int x)] := hl
  refine lv_iconst (v := 0) hx hb dX1_put_0 (by decide) ?_
  refine lv_istore_n (lv' := [(3, .int 0), (0, .ref ba), (1, .int (nI k)), (2, .int x)]) hx hb dX1_put_1 rfl hl (by decide) rfl (fun ls hl => ?_)
  have hl := lv_sub (l' := [(0, .ref ba), (1, .int (nI k)), (2, .int x), (3, .int 0)]) hl [1, 2, 3, 0] rfl
  refine bf_while 4 (fun j H locs ls => va_P (dC, dI) vwCl [(ba, .inl (cB, n, .inl (bf_pn f k x j)))] H ∧ va_D A [(ba, .inl (cB, n, .inl (bf_pn f k x j)))] ∧ va_S A s.heap H locs ∧ lv_has ls 4 [(0, .ref ba), (1, .int (nI k)), (2, .int x), (3, .int (nI j))]) (fun _ => 0) (fun _ => 0) 0 (Nat.zero_le _) ⟨hP, hD, hS, hl⟩ (fun H locs ls hI => ?_) (fun j hj jh H locs ls hI => ?_)
  · obtain ⟨hP, hD, hS, hl⟩ := hI
    refine lv_iload_n hx hb dX1_put_2 rfl (lv_at hl 3 rfl) ?_
    refine lv_iconst (v := 4) hx hb dX1_put_3 (by decide) ?_
    refine lv_icmp_ge (tgt := 28) hx hb dX1_put_4 (by decide) (fun _ => ?_) (fun h9 => absurd (nI_le (a := 4) (b := 4) (Nat.le_of_ble_eq_true rfl) (Nat.le_of_ble_eq_true rfl)) h9)
    exact W.vret hx hb hr (fun t ht hW => ⟨⟨(), rfl, trivial, by rw [ht]; exact hP, hD⟩, hS.F ht⟩) hS.2.2 dX1_put_28
  · obtain ⟨hP, hD, hS, hl⟩ := hI
    refine lv_iload_n hx hb dX1_put_2 rfl (lv_at hl 3 rfl) ?_
    refine lv_iconst (v := 4) hx hb dX1_put_3 (by decide) ?_
    refine lv_icmp_ge (tgt := 28) hx hb dX1_put_4 (by decide) (fun h9 => absurd h9 (nI_ge (a := j) (b := 4) hj (Nat.le_of_ble_eq_true rfl))) (fun _ => ?_)
    refine lv_aload_n hx hb dX1_put_7 rfl (lv_at hl 0 rfl) ?_
    refine lv_iload_n hx hb dX1_put_8 rfl (lv_at hl 1 rfl) ?_
    refine lv_iload_n hx hb dX1_put_9 rfl (lv_at hl 3 rfl) ?_
    refine lv_iadd hx hb dX1_put_10 ?_
    refine bf_topE (y := nI (k + j)) (nI_add k j) ?_
    refine lv_iload_n hx hb dX1_put_11 rfl (lv_at hl 2 rfl) ?_
    refine lv_bipush (v := 24) hx hb dX1_put_12 (by decide) ?_
    refine lv_bipush (v := 8) hx hb dX1_put_14 (by decide) ?_
    refine lv_iload_n hx hb dX1_put_16 rfl (lv_at hl 3 rfl) ?_
    refine lv_imul hx hb dX1_put_17 ?_
    refine lv_isub hx hb dX1_put_18 ?_
    refine bf_topE (y := nI (24 - 8 * j)) (bf_sh24 hj) ?_
    refine lv_ishr hx hb dX1_put_19 ?_
    refine lv_i2b (v := bf_by x j) hx hb dX1_put_20 rfl ?_
    refine bf_bast hx hb hK hP hD hS 0 0 rfl rfl dX1_put_21 (k + j) rfl (by omega) hn (bf_by x j) (bf_by_b x j) (fun H locs hP hD hS => ?_)
    have hP : va_P (dC, dI) vwCl [(ba, .inl (cB, n, .inl (upd (bf_pn f k x j) (k + j) (bf_by x j))))] H := hP
    have hD : va_D A [(ba, .inl (cB, n, .inl (upd (bf_pn f k x j) (k + j) (bf_by x j))))] := hD
    refine lv_iinc (v := nI (j + 1)) (lv' := [(3, .int (nI (j + 1))), (0, .ref ba), (1, .int (nI k)), (2, .int x)]) hx hb dX1_put_22 hl (k := 3) rfl (nI_add j 1) (by decide) rfl (fun ls hl => ?_)
    refine lv_goto (tgt := 2) hx hb dX1_put_25 (by decide) ?_
    exact jh H locs ls ⟨hP, hD, hS, lv_sub hl [1, 2, 3, 0] rfl⟩
set_option maxHeartbeats 4000000 in
set_option maxRecDepth 100000 in
/-- word(from, k) -/
theorem met_X1_word (l : Launch) (dC : Nat → ClassId) (dI : Nat → Nat → Nat) (cB cI : ClassId) (ba n k : Nat) (f : Nat → Int32) (hk : k + 4 ≤ n) (hn : n < 2 ^ 31) : Met l yX1_word (ws_ yX1_word cX1_word 4 (some .int)) ({ frames := 0, cells := 0, slots := 0, locals := 0 }) (va_Pc [.ref ba, .int (nI k)] (bfRd (dC, dI) cB cI [(ba, .inl (cB, n, .inl f))])) (vp_Si (fun r => r = bf_wd f k 4)) 0 0 (fun _ => False) := by
  refine Met.ofW (cc := cX1_word) (maxL := 4) (ret := (some .int)) (by decide) rfl ?_
  intro p e s m args below meth c s₁ hBo hml hv
  obtain ⟨rfl, hP, hK⟩ := hv
  have hx := hBo.exec
  have hb := hBo.bytes
  have hr := hBo.returns
  have hts := atoms_spec (ws := (ws_ yX1_word cX1_word 4 (some .int))) hBo.pre
  have hts : ∀ w ∈ lw_all, w.before _ s = true := fun w h => hts w (List.mem_cons_of_mem _ h)
  have hown : s.vm.findClass RX1 = some m.cls := findClass_of_methodNamed hBo.named
  have hlocks := hBo.notSynchronized
  have hl := lv_entry ([.ref ba, .int (nI k)]) (n := 4) (Nat.le_of_ble_eq_true rfl)
  rw [lg_entry_eq]
  generalize (lg_sl ([.ref ba, .int (nI k)]) ++ List.replicate (4 - (lg_sl ([.ref ba, .int (nI k)])).length) Slot.unset).toArray = ls at hl ⊢
  have hl : lv_has ls 4 [(0, .ref ba), (1, .int (nI k))] := hl
  refine lv_iconst (v := 0) hx hb dX1_word_0 (by decide) ?_
  refine lv_istore_n (lv' := [(2, .int 0), (0, .ref ba), (1, .int (nI k))]) hx hb dX1_word_1 rfl hl (by decide) rfl (fun ls hl => ?_)
  refine lv_iconst (v := 0) hx hb dX1_word_2 (by decide) ?_
  refine lv_istore_n (lv' := [(3, .int 0), (2, .int 0), (0, .ref ba), (1, .int (nI k))]) hx hb dX1_word_3 rfl hl (by decide) rfl (fun ls hl => ?_)
  have hl := lv_sub (l' := [(0, .ref ba), (1, .int (nI k)), (2, .int 0), (3, .int 0)]) hl [2, 3, 1, 0] rfl
  refine bf_while 4 (fun j H locs ls => H = s.heap ∧ locs = [] ∧ lv_has ls 4 [(0, .ref ba), (1, .int (nI k)), (2, .int (bf_wd f k j)), (3, .int (nI j))]) (fun _ => 0) (fun _ => 0) 0 (Nat.zero_le _) ⟨rfl, rfl, hl⟩ (fun H locs ls hI => ?_) (fun j hj jh H locs ls hI => ?_)
  · obtain ⟨rfl, rfl, hl⟩ := hI
    refine lv_iload_n hx hb dX1_word_4 rfl (lv_at hl 3 rfl) ?_
    refine lv_iconst (v := 4) hx hb dX1_word_5 (by decide) ?_
    refine lv_icmp_ge (tgt := 30) hx hb dX1_word_6 (by decide) (fun _ => ?_) (fun h9 => absurd (nI_le (a := 4) (b := 4) (Nat.le_of_ble_eq_true rfl) (Nat.le_of_ble_eq_true rfl)) h9)
    refine lv_iload_n hx hb dX1_word_30 rfl (lv_at hl 2 rfl) ?_
    exact W.iret (v := (bf_wd f k 4)) hx hb hr (fun t ht hW => ⟨_, rfl, rfl, by rw [ht]⟩) (fun q h => by cases h) dX1_word_31
  · obtain ⟨rfl, rfl, hl⟩ := hI
    refine lv_iload_n hx hb dX1_word_4 rfl (lv_at hl 3 rfl) ?_
    refine lv_iconst (v := 4) hx hb dX1_word_5 (by decide) ?_
    refine lv_icmp_ge (tgt := 30) hx hb dX1_word_6 (by decide) (fun h9 => absurd h9 (nI_ge (a := j) (b := 4) hj (Nat.le_of_ble_eq_true rfl))) (fun _ => ?_)
    refine lv_iload_n hx hb dX1_word_9 rfl (lv_at hl 2 rfl) ?_
    refine lv_bipush (v := 8) hx hb dX1_word_10 (by decide) ?_
    refine lv_ishl hx hb dX1_word_12 ?_
    refine lv_aload_n hx hb dX1_word_13 rfl (lv_at hl 0 rfl) ?_
    refine lv_iload_n hx hb dX1_word_14 rfl (lv_at hl 1 rfl) ?_
    refine lv_iload_n hx hb dX1_word_15 rfl (lv_at hl 3 rfl) ?_
    refine lv_iadd hx hb dX1_word_16 ?_
    refine bf_topE (y := nI (k + j)) (nI_add k j) ?_
    refine bf_bald hx hb hK hP 0 0 rfl rfl dX1_word_17 (k + j) rfl (by omega) hn ?_
    refine lv_sipush (v := 255) hx hb dX1_word_18 (by decide) ?_
    refine lv_iand hx hb dX1_word_21 ?_
    refine lv_ior hx hb dX1_word_22 ?_
    refine bf_topE (y := bf_wd f k (j + 1)) rfl ?_
    refine lv_istore_n (lv' := [(2, .int (bf_wd f k (j + 1))), (0, .ref ba), (1, .int (nI k)), (3, .int (nI j))]) hx hb dX1_word_23 rfl hl (by decide) rfl (fun ls hl => ?_)
    refine lv_iinc (v := nI (j + 1)) (lv' := [(3, .int (nI (j + 1))), (2, .int (bf_wd f k (j + 1))), (0, .ref ba), (1, .int (nI k))]) hx hb dX1_word_24 hl (k := 3) rfl (nI_add j 1) (by decide) rfl (fun ls hl => ?_)
    refine lv_goto (tgt := 4) hx hb dX1_word_27 (by decide) ?_
    exact jh _ _ ls ⟨rfl, rfl, lv_sub hl [2, 3, 1, 0] rfl⟩
set_option maxHeartbeats 4000000 in
set_option maxRecDepth 100000 in
/-- BlowfishDeskModel(): four new arrays -/
theorem met_X1_init (l : Launch) (dC : Nat → ClassId) (dI : Nat → Nat → Nat) (cB cI : ClassId) (sz : Nat) (h0 : Nat) : Met l yX1_init (ws_ yX1_init cX1_init 1 none) ({ frames := 1, cells := 4, slots := 1090, locals := 12 }) (va_Pc [.ref h0] (bfPre (dC, dI) cB cI [(h0, .inr (1, [.null, .null, .null, .null]))] sz)) (va_Qv (fun _ : Nat × Nat × Nat × Nat => True) (fun u t => bfPost (dC, dI) [(h0, .inr (1, [.ref u.1, .ref u.2.1, .ref u.2.2.1, .ref u.2.2.2])), (u.1, .inl (cB, 32, .inl (fun _ => 0))), (u.2.1, .inl (cB, 8, .inl (fun _ => 0))), (u.2.2.1, .inl (cB, 8, .inl (fun _ => 0))), (u.2.2.2, .inl (cI, 1042, .inl (fun _ => 0)))] (va_A [(h0, .inr (1, [.null, .null, .null, .null]))] sz) t) (va_A [(h0, .inr (1, [.null, .null, .null, .null]))] sz)) 4 1090 (va_A [(h0, .inr (1, [.null, .null, .null, .null]))] sz) := by
  refine Met.ofW (cc := cX1_init) (maxL := 1) (ret := none) (by decide) rfl ?_
  intro p e s m args below meth c s₁ hBo hml hv
  obtain ⟨rfl, hsz, hP, hK, hD0⟩ := hv
  have hx := hBo.exec
  have hb := hBo.bytes
  have hr := hBo.returns
  have hts := atoms_spec (ws := (ws_ yX1_init cX1_init 1 none)) hBo.pre
  have hts : ∀ w ∈ lw_all, w.before _ s = true := fun w h => hts w (List.mem_cons_of_mem _ h)
  have hown : s.vm.findClass RX1 = some m.cls := findClass_of_methodNamed hBo.named
  have hlocks := hBo.notSynchronized
  have hin : meth.name = "<init>" := (name_of_methodNamed hBo.named hBo.method).1
  subst hsz
  have hD := hD0.self (sz := s.heap.size)
  generalize hAe : va_A [(h0, .inr (1, [.null, .null, .null, .null]))] s.heap.size = A at hD ⊢
  have hA : ∀ q : Nat, s.heap.size ≤ q → A q := fun q h => by rw [← hAe]; exact Or.inr h
  have hS : va_S A s.heap s.heap [] := va_S.rf
  have hl := lv_entry ([.ref h0]) (n := 1) (Nat.le_of_ble_eq_true rfl)
  rw [lg_entry_eq]
  generalize (lg_sl ([.ref h0]) ++ List.replicate (1 - (lg_sl ([.ref h0])).length) Slot.unset).toArray = ls at hl ⊢
  have hl : lv_has ls 1 [(0, .ref h0)] := hl
  refine lv_aload_n hx hb dX1_init_0 rfl (lv_at hl 0 rfl) ?_
  refine W.objInit hx hb hown (hts _ q318) (hts _ q33) (hts _ q34) rfl (by rw [hml]; exact hl.1) rfl dX1_init_1 (Nat.le_of_ble_eq_true rfl) (Nat.le_of_ble_eq_true rfl) ?_
  refine W.eq (g2 := F0 m 4 ls []) rfl ?_
  refine lv_aload_n hx hb dX1_init_4 rfl (lv_at hl 0 rfl) ?_
  refine lv_bipush (v := 32) hx hb dX1_init_5 (by decide) ?_
  refine bf_newa (atype := .byte) hx hb (hts _ q45) rfl hK 0 rfl (fun z z' h h' => Option.some.inj (h.symm.trans h')) hP hD hS hA dX1_init_7 32 rfl (Nat.le_of_ble_eq_true rfl) (32, .inl (fun _ => 0)) (fun _ => rfl) (Nat.le_of_ble_eq_true rfl) (Nat.le_of_ble_eq_true rfl) (Nat.le_of_ble_eq_true rfl) (fun k0 H hP hD hS => ?_)
  have hP : va_P (dC, dI) vwCl [(h0, .inr (1, [.null, .null, .null, .null])), (k0, .inl (cB, 32, .inl (fun _ => 0)))] H := hP
  have hD : va_D A [(h0, .inr (1, [.null, .null, .null, .null])), (k0, .inl (cB, 32, .inl (fun _ => 0)))] := hD
  refine va_putF (D := (dC, dI)) (ci := 1) (v := .ref k0) (ty := .array .byte) (C := RX1) (T := TX1) (N := 4) hx hb hts in_X1 tyX1 tyX1_ok nmX1 hown hK hP hD hS 0 rfl rfl 0 (by decide) (hts _ q319) (fun _ h9 => h9) rfl hin rfl (by decide +kernel) rfl rfl (Nat.le_of_ble_eq_true rfl) dX1_init_9 (fun H locs hP hD hS => ?_)
  have hP : va_P (dC, dI) vwCl [(h0, .inr (1, [.ref k0, .null, .null, .null])), (k0, .inl (cB, 32, .inl (fun _ => 0)))] H := hP
  have hD : va_D A [(h0, .inr (1, [.ref k0, .null, .null, .null])), (k0, .inl (cB, 32, .inl (fun _ => 0)))] := hD
  refine lv_aload_n hx hb dX1_init_12 rfl (lv_at hl 0 rfl) ?_
  refine lv_bipush (v := 8) hx hb dX1_init_13 (by decide) ?_
  refine bf_newa (atype := .byte) hx hb (hts _ q45) rfl hK 0 rfl (fun z z' h h' => Option.some.inj (h.symm.trans h')) hP hD hS hA dX1_init_15 8 rfl (Nat.le_of_ble_eq_true rfl) (8, .inl (fun _ => 0)) (fun _ => rfl) (Nat.le_of_ble_eq_true rfl) (Nat.le_of_ble_eq_true rfl) (Nat.le_of_ble_eq_true rfl) (fun b0 H hP hD hS => ?_)
  have hP : va_P (dC, dI) vwCl [(h0, .inr (1, [.ref k0, .null, .null, .null])), (k0, .inl (cB, 32, .inl (fun _ => 0))), (b0, .inl (cB, 8, .inl (fun _ => 0)))] H := hP
  have hD : va_D A [(h0, .inr (1, [.ref k0, .null, .null, .null])), (k0, .inl (cB, 32, .inl (fun _ => 0))), (b0, .inl (cB, 8, .inl (fun _ => 0)))] := hD
  refine va_putF (D := (dC, dI)) (ci := 1) (v := .ref b0) (ty := .array .byte) (C := RX1) (T := TX1) (N := 4) hx hb hts in_X1 tyX1 tyX1_ok nmX1 hown hK hP hD hS 0 rfl rfl 1 (by decide) (hts _ q320) (fun _ h9 => h9) rfl hin rfl (by decide +kernel) rfl rfl (Nat.le_of_ble_eq_true rfl) dX1_init_17 (fun H locs hP hD hS => ?_)
  have hP : va_P (dC, dI) vwCl [(h0, .inr (1, [.ref k0, .ref b0, .null, .null])), (k0, .inl (cB, 32, .inl (fun _ => 0))), (b0, .inl (cB, 8, .inl (fun _ => 0)))] H := hP
  have hD : va_D A [(h0, .inr (1, [.ref k0, .ref b0, .null, .null])), (k0, .inl (cB, 32, .inl (fun _ => 0))), (b0, .inl (cB, 8, .inl (fun _ => 0)))] := hD
  refine lv_aload_n hx hb dX1_init_20 rfl (lv_at hl 0 rfl) ?_
  refine lv_bipush (v := 8) hx hb dX1_init_21 (by decide) ?_
  refine bf_newa (atype := .byte) hx hb (hts _ q45) rfl hK 0 rfl (fun z z' h h' => Option.some.inj (h.symm.trans h')) hP hD hS hA dX1_init_23 8 rfl (Nat.le_of_ble_eq_true rfl) (8, .inl (fun _ => 0)) (fun _ => rfl) (Nat.le_of_ble_eq_true rfl) (Nat.le_of_ble_eq_true rfl) (Nat.le_of_ble_eq_true rfl) (fun o0 H hP hD hS => ?_)
  have hP : va_P (dC, dI) vwCl [(h0, .inr (1, [.ref k0, .ref b0, .null, .null])), (k0, .inl (cB, 32, .inl (fun _ => 0))), (b0, .inl (cB, 8, .inl (fun _ => 0))), (o0, .inl (cB, 8, .inl (fun _ => 0)))] H := hP
  have hD : va_D A [(h0, .inr (1, [.ref k0, .ref b0, .null, .null])), (k0, .inl (cB, 32, .inl (fun _ => 0))), (b0, .inl (cB, 8, .inl (fun _ => 0))), (o0, .inl (cB, 8, .inl (fun _ => 0)))] := hD
  refine va_putF (D := (dC, dI)) (ci := 1) (v := .ref o0) (ty := .array .byte) (C := RX1) (T := TX1) (N := 4) hx hb hts in_X1 tyX1 tyX1_ok nmX1 hown hK hP hD hS 0 rfl rfl 2 (by decide) (hts _ q321) (fun _ h9 => h9) rfl hin rfl (by decide +kernel) rfl rfl (Nat.le_of_ble_eq_true rfl) dX1_init_25 (fun H locs hP hD hS => ?_)
  have hP : va_P (dC, dI) vwCl [(h0, .inr (1, [.ref k0, .ref b0, .ref o0, .null])), (k0, .inl (cB, 32, .inl (fun _ => 0))), (b0, .inl (cB, 8, .inl (fun _ => 0))), (o0, .inl (cB, 8, .inl (fun _ => 0)))] H := hP
  have hD : va_D A [(h0, .inr (1, [.ref k0, .ref b0, .ref o0, .null])), (k0, .inl (cB, 32, .inl (fun _ => 0))), (b0, .inl (cB, 8, .inl (fun _ => 0))), (o0, .inl (cB, 8, .inl (fun _ => 0)))] := hD
  refine lv_aload_n hx hb dX1_init_28 rfl (lv_at hl 0 rfl) ?_
  refine lv_sipush (v := 1042) hx hb dX1_init_29 (by decide) ?_
  refine bf_newa (atype := .int) hx hb (hts _ q96) rfl hK 1 rfl (fun z z' h h' => Option.some.inj (h.symm.trans h')) hP hD hS hA dX1_init_32 1042 rfl (Nat.le_of_ble_eq_true rfl) (1042, .inl (fun _ => 0)) (fun _ => rfl) (Nat.le_of_ble_eq_true rfl) (Nat.le_of_ble_eq_true rfl) (Nat.le_of_ble_eq_true rfl) (fun t0 H hP hD hS => ?_)
  have hP : va_P (dC, dI) vwCl [(h0, .inr (1, [.ref k0, .ref b0, .ref o0, .null])), (k0, .inl (cB, 32, .inl (fun _ => 0))), (b0, .inl (cB, 8, .inl (fun _ => 0))), (o0, .inl (cB, 8, .inl (fun _ => 0))), (t0, .inl (cI, 1042, .inl (fun _ => 0)))] H := hP
  have hD : va_D A [(h0, .inr (1, [.ref k0, .ref b0, .ref o0, .null])), (k0, .inl (cB, 32, .inl (fun _ => 0))), (b0, .inl (cB, 8, .inl (fun _ => 0))), (o0, .inl (cB, 8, .inl (fun _ => 0))), (t0, .inl (cI, 1042, .inl (fun _ => 0)))] := hD
  refine va_putF (D := (dC, dI)) (ci := 1) (v := .ref t0) (ty := .array .int) (C := RX1) (T := TX1) (N := 4) hx hb hts in_X1 tyX1 tyX1_ok nmX1 hown hK hP hD hS 0 rfl rfl 3 (by decide) (hts _ q322) (fun _ h9 => h9) rfl hin rfl (by decide +kernel) rfl rfl (Nat.le_of_ble_eq_true rfl) dX1_init_34 (fun H locs hP hD hS => ?_)
  have hP : va_P (dC, dI) vwCl [(h0, .inr (1, [.ref k0, .ref b0, .ref o0, .ref t0])), (k0, .inl (cB, 32, .inl (fun _ => 0))), (b0, .inl (cB, 8, .inl (fun _ => 0))), (o0, .inl (cB, 8, .inl (fun _ => 0))), (t0, .inl (cI, 1042, .inl (fun _ => 0)))] H := hP
  have hD : va_D A [(h0, .inr (1, [.ref k0, .ref b0, .ref o0, .ref t0])), (k0, .inl (cB, 32, .inl (fun _ => 0))), (b0, .inl (cB, 8, .inl (fun _ => 0))), (o0, .inl (cB, 8, .inl (fun _ => 0))), (t0, .inl (cI, 1042, .inl (fun _ => 0)))] := hD
  exact W.vret hx hb hr (fun t ht hW => ⟨⟨(k0, b0, o0, t0), rfl, trivial, by rw [ht]; exact hP, hD⟩, hS.F ht⟩) hS.2.2 dX1_init_37
set_option maxHeartbeats 4000000 in
set_option maxRecDepth 100000 in
/-- key(half, ..) -/
theorem met_X1_key (l : Launch) (dC : Nat → ClassId) (dI : Nat → Nat → Nat) (cB cI : ClassId) (sz : Nat) (h0 k0 b0 o0 t0 : Nat) (K B O T : Nat → Int32) (x w1 w2 w3 w4 : Int32) : Met l yX1_key (ws_ yX1_key cX1_key 7 none) ({ frames := 1, cells := 0, slots := 0, locals := 23 }) (va_Pc [.ref h0, .int x, .int w1, .int w2, .int w3, .int w4] (bfPre (dC, dI) cB cI [(h0, .inr (1, [.ref k0, .ref b0, .ref o0, .ref t0])), (k0, .inl (cB, 32, .inl K))] sz)) (va_Qv (fun _ : Unit => True) (fun _ t => bfPost (dC, dI) [(h0, .inr (1, [.ref k0, .ref b0, .ref o0, .ref t0])), (k0, .inl (cB, 32, .inl (bf_key K x w1 w2 w3 w4)))] (va_A [(h0, .inr (1, [.ref k0, .ref b0, .ref o0, .ref t0])), (k0, .inl (cB, 32, .inl K))] sz) t) (va_A [(h0, .inr (1, [.ref k0, .ref b0, .ref o0, .ref t0])), (k0, .inl (cB, 32, .inl K))] sz)) 0 0 (va_A [(h0, .inr (1, [.ref k0, .ref b0, .ref o0, .ref t0])), (k0, .inl (cB, 32, .inl K))] sz) := by
  refine Met.ofW (cc := cX1_key) (maxL := 7) (ret := none) (by decide) rfl ?_
  intro p e s m args below meth c s₁ hBo hml hv
  obtain ⟨rfl, hsz, hP, hK, hD0⟩ := hv
  have hx := hBo.exec
  have hb := hBo.bytes
  have hr := hBo.returns
  have hts := atoms_spec (ws := (ws_ yX1_key cX1_key 7 none)) hBo.pre
  have hts : ∀ w ∈ lw_all, w.before _ s = true := fun w h => hts w (List.mem_cons_of_mem _ h)
  have hown : s.vm.findClass RX1 = some m.cls := findClass_of_methodNamed hBo.named
  have hlocks := hBo.notSynchronized
  subst hsz
  have hD := hD0.self (sz := s.heap.size)
  generalize hAe : va_A [(h0, .inr (1, [.ref k0, .ref b0, .ref o0, .ref t0])), (k0, .inl (cB, 32, .inl K))] s.heap.size = A at hD ⊢
  have hA : ∀ q : Nat, s.heap.size ≤ q → A q := fun q h => by rw [← hAe]; exact Or.inr h
  have hS : va_S A s.heap s.heap [] := va_S.rf
  have hl := lv_entry ([.ref h0, .int x, .int w1, .int w2, .int w3, .int w4]) (n := 7) (Nat.le_of_ble_eq_true rfl)
  rw [lg_entry_eq]
  generalize (lg_sl ([.ref h0, .int x, .int w1, .int w2, .int w3, .int w4]) ++ List.replicate (7 - (lg_sl ([.ref h0, .int x, .int w1, .int w2, .int w3, .int w4])).length) Slot.unset).toArray = ls at hl ⊢
  have hl : lv_has ls 7 [(0, .ref h0), (1, .int x), (2, .int w1), (3, .int w2), (4, .int w3), (5, .int w4)] := hl
  have hat := bf_at_le x
  refine lv_bipush (v := 16) hx hb dX1_key_0 (by decide) ?_
  refine lv_iload_n hx hb dX1_key_2 rfl (lv_at hl 1 rfl) ?_
  refine lv_iconst (v := 1) hx hb dX1_key_3 (by decide) ?_
  refine lv_iand hx hb dX1_key_4 ?_
  refine bf_topE (y := nI (x.toBitVec.toNat % 2 ^ 1)) (pk_and x 1 (by decide)) ?_
  refine lv_imul hx hb dX1_key_5 ?_
  refine bf_topE (y := nI (bf_at x)) (bf_at16 x) ?_
  refine lv_istore (lv' := [(6, .int (nI (bf_at x))), (0, .ref h0), (1, .int x), (2, .int w1), (3, .int w2), (4, .int w3), (5, .int w4)]) hx hb dX1_key_6 hl (by decide) rfl (fun ls hl => ?_)
  refine lv_aload_n hx hb dX1_key_8 rfl (lv_at hl 1 rfl) ?_
  refine va_get (D := (dC, dI)) (ci := 1) (v := .ref k0) (C := RX1) (T := TX1) (N := 4) hx hb hts in_X1 hown hK hP 0 rfl rfl 0 (by decide) (hts _ q319) (fun _ h9 => h9) rfl dX1_key_9 ?_
  refine lv_iload hx hb dX1_key_12 (lv_at hl 0 rfl) ?_
  refine lv_iload_n hx hb dX1_key_14 rfl (lv_at hl 3 rfl) ?_
  refine bf_callv (wr := [(h0, .inr (1, [.ref k0, .ref b0, .ref o0, .ref t0]))]) (va_runS (As := [.ref k0, .int (nI (bf_at x)), .int w1]) (rest := []) ⟨hx, hb, hml, hown, hts⟩ (met_X1_put l dC dI cB cI s.heap.size k0 32 (bf_at x) w1 K (by omega) (Nat.le_of_ble_eq_true rfl)) (va_cwS 3 hts (lw_S q336 q337 q15 q338) rfl rfl rfl (by decide +kernel) ⟨Nat.le_of_ble_eq_true rfl, Nat.le_of_ble_eq_true rfl⟩) (bf_preS hK hP hD [1] (by decide) rfl) rfl rfl hl.1 rfl (lv_room (Nat.le_of_ble_eq_true rfl)) dX1_key_15 ⟨Nat.le_of_ble_eq_true rfl, Nat.le_of_ble_eq_true rfl⟩) hP hD hS hA [1] [0] rfl rfl (by decide) (by decide) (fun _ H locs hP hD hS => ?_)
  have hP : va_P (dC, dI) vwCl [(h0, .inr (1, [.ref k0, .ref b0, .ref o0, .ref t0])), (k0, .inl (cB, 32, .inl (bf_put K (bf_at x) w1)))] H := hP
  have hD : va_D A [(h0, .inr (1, [.ref k0, .ref b0, .ref o0, .ref t0])), (k0, .inl (cB, 32, .inl (bf_put K (bf_at x) w1)))] := hD
  refine lv_aload_n hx hb dX1_key_18 rfl (lv_at hl 1 rfl) ?_
  refine va_get (D := (dC, dI)) (ci := 1) (v := .ref k0) (C := RX1) (T := TX1) (N := 4) hx hb hts in_X1 hown hK hP 0 rfl rfl 0 (by decide) (hts _ q319) (fun _ h9 => h9) rfl dX1_key_19 ?_
  refine lv_iload hx hb dX1_key_22 (lv_at hl 0 rfl) ?_
  refine lv_iconst (v := 4) hx hb dX1_key_24 (by decide) ?_
  refine lv_iadd hx hb dX1_key_25 ?_
  refine bf_topE (y := nI (bf_at x + 4)) (nI_add _ 4) ?_
  refine lv_iload_n hx hb dX1_key_26 rfl (lv_at hl 4 rfl) ?_
  refine bf_callv (wr := [(h0, .inr (1, [.ref k0, .ref b0, .ref o0, .ref t0]))]) (va_runS (As := [.ref k0, .int (nI (bf_at x + 4)), .int w2]) (rest := []) ⟨hx, hb, hml, hown, hts⟩ (met_X1_put l dC dI cB cI H.size k0 32 (bf_at x + 4) w2 (bf_put K (bf_at x) w1) (by omega) (Nat.le_of_ble_eq_true rfl)) (va_cwS 3 hts (lw_S q336 q337 q15 q338) rfl rfl rfl (by decide +kernel) ⟨Nat.le_of_ble_eq_true rfl, Nat.le_of_ble_eq_true rfl⟩) (bf_preS hK hP hD [1] (by decide) rfl) rfl rfl hl.1 rfl (lv_room (Nat.le_of_ble_eq_true rfl)) dX1_key_27 ⟨Nat.le_of_ble_eq_true rfl, Nat.le_of_ble_eq_true rfl⟩) hP hD hS hA [1] [0] rfl rfl (by decide) (by decide) (fun _ H locs hP hD hS => ?_)
  have hP : va_P (dC, dI) vwCl [(h0, .inr (1, [.ref k0, .ref b0, .ref o0, .ref t0])), (k0, .inl (cB, 32, .inl (bf_put (bf_put K (bf_at x) w1) (bf_at x + 4) w2)))] H := hP
  have hD : va_D A [(h0, .inr (1, [.ref k0, .ref b0, .ref o0, .ref t0])), (k0, .inl (cB, 32, .inl (bf_put (bf_put K (bf_at x) w1) (bf_at x + 4) w2)))] := hD
  refine lv_aload_n hx hb dX1_key_30 rfl (lv_at hl 1 rfl) ?_
  refine va_get (D := (dC, dI)) (ci := 1) (v := .ref k0) (C := RX1) (T := TX1) (N := 4) hx hb hts in_X1 hown hK hP 0 rfl rfl 0 (by decide) (hts _ q319) (fun _ h9 => h9) rfl dX1_key_31 ?_
  refine lv_iload hx hb dX1_key_34 (lv_at hl 0 rfl) ?_
  refine lv_bipush (v := 8) hx hb dX1_key_36 (by decide) ?_
  refine lv_iadd hx hb dX1_key_38 ?_
  refine bf_topE (y := nI (bf_at x + 8)) (nI_add _ 8) ?_
  refine lv_iload hx hb dX1_key_39 (lv_at hl 5 rfl) ?_
  refine bf_callv (wr := [(h0, .inr (1, [.ref k0, .ref b0, .ref o0, .ref t0]))]) (va_runS (As := [.ref k0, .int (nI (bf_at x + 8)), .int w3]) (rest := []) ⟨hx, hb, hml, hown, hts⟩ (met_X1_put l dC dI cB cI H.size k0 32 (bf_at x + 8) w3 (bf_put (bf_put K (bf_at x) w1) (bf_at x + 4) w2) (by omega) (Nat.le_of_ble_eq_true rfl)) (va_cwS 3 hts (lw_S q336 q337 q15 q338) rfl rfl rfl (by decide +kernel) ⟨Nat.le_of_ble_eq_true rfl, Nat.le_of_ble_eq_true rfl⟩) (bf_preS hK hP hD [1] (by decide) rfl) rfl rfl hl.1 rfl (lv_room (Nat.le_of_ble_eq_true rfl)) dX1_key_41 ⟨Nat.le_of_ble_eq_true rfl, Nat.le_of_ble_eq_true rfl⟩) hP hD hS hA [1] [0] rfl rfl (by decide) (by decide) (fun _ H locs hP hD hS => ?_)
  have hP : va_P (dC, dI) vwCl [(h0, .inr (1, [.ref k0, .ref b0, .ref o0, .ref t0])), (k0, .inl (cB, 32, .inl (bf_put (bf_put (bf_put K (bf_at x) w1) (bf_at x + 4) w2) (bf_at x + 8) w3)))] H := hP
  have hD : va_D A [(h0, .inr (1, [.ref k0, .ref b0, .ref o0, .ref t0])), (k0, .inl (cB, 32, .inl (bf_put (bf_put (bf_put K (bf_at x) w1) (bf_at x + 4) w2) (bf_at x + 8) w3)))] := hD
  refine lv_aload_n hx hb dX1_key_44 rfl (lv_at hl 1 rfl) ?_
  refine va_get (D := (dC, dI)) (ci := 1) (v := .ref k0) (C := RX1) (T := TX1) (N := 4) hx hb hts in_X1 hown hK hP 0 rfl rfl 0 (by decide) (hts _ q319) (fun _ h9 => h9) rfl dX1_key_45 ?_
  refine lv_iload hx hb dX1_key_48 (lv_at hl 0 rfl) ?_
  refine lv_bipush (v := 12) hx hb dX1_key_50 (by decide) ?_
  refine lv_iadd hx hb dX1_key_52 ?_
  refine bf_topE (y := nI (bf_at x + 12)) (nI_add _ 12) ?_
  refine lv_iload hx hb dX1_key_53 (lv_at hl 6 rfl) ?_
  refine bf_callv (wr := [(h0, .inr (1, [.ref k0, .ref b0, .ref o0, .ref t0]))]) (va_runS (As := [.ref k0, .int (nI (bf_at x + 12)), .int w4]) (rest := []) ⟨hx, hb, hml, hown, hts⟩ (met_X1_put l dC dI cB cI H.size k0 32 (bf_at x + 12) w4 (bf_put (bf_put (bf_put K (bf_at x) w1) (bf_at x + 4) w2) (bf_at x + 8) w3) (by omega) (Nat.le_of_ble_eq_true rfl)) (va_cwS 3 hts (lw_S q336 q337 q15 q338) rfl rfl rfl (by decide +kernel) ⟨Nat.le_of_ble_eq_true rfl, Nat.le_of_ble_eq_true rfl⟩) (bf_preS hK hP hD [1] (by decide) rfl) rfl rfl hl.1 rfl (lv_room (Nat.le_of_ble_eq_true rfl)) dX1_key_55 ⟨Nat.le_of_ble_eq_true rfl, Nat.le_of_ble_eq_true rfl⟩) hP hD hS hA [1] [0] rfl rfl (by decide) (by decide) (fun _ H locs hP hD hS => ?_)
  have hP : va_P (dC, dI) vwCl [(h0, .inr (1, [.ref k0, .ref b0, .ref o0, .ref t0])), (k0, .inl (cB, 32, .inl (bf_put (bf_put (bf_put (bf_put K (bf_at x) w1) (bf_at x + 4) w2) (bf_at x + 8) w3) (bf_at x + 12) w4)))] H := hP
  have hD : va_D A [(h0, .inr (1, [.ref k0, .ref b0, .ref o0, .ref t0])), (k0, .inl (cB, 32, .inl (bf_put (bf_put (bf_put (bf_put K (bf_at x) w1) (bf_at x + 4) w2) (bf_at x + 8) w3) (bf_at x + 12) w4)))] := hD
  exact W.vret hx hb hr (fun t ht hW => ⟨⟨(), rfl, trivial, by rw [ht]; exact hP, hD⟩, hS.F ht⟩) hS.2.2 dX1_key_58
set_option maxHeartbeats 4000000 in
set_option maxRecDepth 100000 in
/-- block(..) -/
theorem met_X1_block (l : Launch) (dC : Nat → ClassId) (dI : Nat → Nat → Nat) (cB cI : ClassId) (sz : Nat) (h0 k0 b0 o0 t0 : Nat) (K B O T : Nat → Int32) (w1 w2 : Int32) : Met l yX1_block (ws_ yX1_block cX1_block 3 none) ({ frames := 1, cells := 0, slots := 0, locals := 23 }) (va_Pc [.ref h0, .int w1, .int w2] (bfPre (dC, dI) cB cI [(h0, .inr (1, [.ref k0, .ref b0, .ref o0, .ref t0])), (b0, .inl (cB, 8, .inl B))] sz)) (va_Qv (fun _ : Unit => True) (fun _ t => bfPost (dC, dI) [(h0, .inr (1, [.ref k0, .ref b0, .ref o0, .ref t0])), (b0, .inl (cB, 8, .inl (bf_put (bf_put B 0 w1) 4 w2)))] (va_A [(h0, .inr (1, [.ref k0, .ref b0, .ref o0, .ref t0])), (b0, .inl (cB, 8, .inl B))] sz) t) (va_A [(h0, .inr (1, [.ref k0, .ref b0, .ref o0, .ref t0])), (b0, .inl (cB, 8, .inl B))] sz)) 0 0 (va_A [(h0, .inr (1, [.ref k0, .ref b0, .ref o0, .ref t0])), (b0, .inl (cB, 8, .inl B))] sz) := by
  refine Met.ofW (cc := cX1_block) (maxL := 3) (ret := none) (by decide) rfl ?_
  intro p e s m args below meth c s₁ hBo hml hv
  obtain ⟨rfl, hsz, hP, hK, hD0⟩ := hv
  have hx := hBo.exec
  have hb := hBo.bytes
  have hr := hBo.returns
  have hts := atoms_spec (ws := (ws_ yX1_block cX1_block 3 none)) hBo.pre
  have hts : ∀ w ∈ lw_all, w.before _ s = true := fun w h => hts w (List.mem_cons_of_mem _ h)
  have hown : s.vm.findClass RX1 = some m.cls := findClass_of_methodNamed hBo.named
  have hlocks := hBo.notSynchronized
  subst hsz
  have hD := hD0.self (sz := s.heap.size)
  generalize hAe : va_A [(h0, .inr (1, [.ref k0, .ref b0, .ref o0, .ref t0])), (b0, .inl (cB, 8, .inl B))] s.heap.size = A at hD ⊢
  have hA : ∀ q : Nat, s.heap.size ≤ q → A q := fun q h => by rw [← hAe]; exact Or.inr h
  have hS : va_S A s.heap s.heap [] := va_S.rf
  have hl := lv_entry ([.ref h0, .int w1, .int w2]) (n := 3) (Nat.le_of_ble_eq_true rfl)
  rw [lg_entry_eq]
  generalize (lg_sl ([.ref h0, .int w1, .int w2]) ++ List.replicate (3 - (lg_sl ([.ref h0, .int w1, .int w2])).length) Slot.unset).toArray = ls at hl ⊢
  have hl : lv_has ls 3 [(0, .ref h0), (1, .int w1), (2, .int w2)] := hl
  refine lv_aload_n hx hb dX1_block_0 rfl (lv_at hl 0 rfl) ?_
  refine va_get (D := (dC, dI)) (ci := 1) (v := .ref b0) (C := RX1) (T := TX1) (N := 4) hx hb hts in_X1 hown hK hP 0 rfl rfl 1 (by decide) (hts _ q320) (fun _ h9 => h9) rfl dX1_block_1 ?_
  refine lv_iconst (v := 0) hx hb dX1_block_4 (by decide) ?_
  refine lv_iload_n hx hb dX1_block_5 rfl (lv_at hl 1 rfl) ?_
  refine bf_callv (wr := [(h0, .inr (1, [.ref k0, .ref b0, .ref o0, .ref t0]))]) (va_runS (As := [.ref b0, .int (nI 0), .int w1]) (rest := []) ⟨hx, hb, hml, hown, hts⟩ (met_X1_put l dC dI cB cI s.heap.size b0 8 0 w1 B (Nat.le_of_ble_eq_true rfl) (Nat.le_of_ble_eq_true rfl)) (va_cwS 3 hts (lw_S q336 q337 q15 q338) rfl rfl rfl (by decide +kernel) ⟨Nat.le_of_ble_eq_true rfl, Nat.le_of_ble_eq_true rfl⟩) (bf_preS hK hP hD [1] (by decide) rfl) rfl rfl hl.1 rfl (lv_room (Nat.le_of_ble_eq_true rfl)) dX1_block_6 ⟨Nat.le_of_ble_eq_true rfl, Nat.le_of_ble_eq_true rfl⟩) hP hD hS hA [1] [0] rfl rfl (by decide) (by decide) (fun _ H locs hP hD hS => ?_)
  have hP : va_P (dC, dI) vwCl [(h0, .inr (1, [.ref k0, .ref b0, .ref o0, .ref t0])), (b0, .inl (cB, 8, .inl (bf_put B 0 w1)))] H := hP
  have hD : va_D A [(h0, .inr (1, [.ref k0, .ref b0, .ref o0, .ref t0])), (b0, .inl (cB, 8, .inl (bf_put B 0 w1)))] := hD
  refine lv_aload_n hx hb dX1_block_9 rfl (lv_at hl 0 rfl) ?_
  refine va_get (D := (dC, dI)) (ci := 1) (v := .ref b0) (C := RX1) (T := TX1) (N := 4) hx hb hts in_X1 hown hK hP 0 rfl rfl 1 (by decide) (hts _ q320) (fun _ h9 => h9) rfl dX1_block_10 ?_
  refine lv_iconst (v := 4) hx hb dX1_block_13 (by decide) ?_
  refine lv_iload_n hx hb dX1_block_14 rfl (lv_at hl 2 rfl) ?_
  refine bf_callv (wr := [(h0, .inr (1, [.ref k0, .ref b0, .ref o0, .ref t0]))]) (va_runS (As := [.ref b0, .int (nI 4), .int w2]) (rest := []) ⟨hx, hb, hml, hown, hts⟩ (met_X1_put l dC dI cB cI H.size b0 8 4 w2 (bf_put B 0 w1) (Nat.le_of_ble_eq_true rfl) (Nat.le_of_ble_eq_true rfl)) (va_cwS 3 hts (lw_S q336 q337 q15 q338) rfl rfl rfl (by decide +kernel) ⟨Nat.le_of_ble_eq_true rfl, Nat.le_of_ble_eq_true rfl⟩) (bf_preS hK hP hD [1] (by decide) rfl) rfl rfl hl.1 rfl (lv_room (Nat.le_of_ble_eq_true rfl)) dX1_block_15 ⟨Nat.le_of_ble_eq_true rfl, Nat.le_of_ble_eq_true rfl⟩) hP hD hS hA [1] [0] rfl rfl (by decide) (by decide) (fun _ H locs hP hD hS => ?_)
  have hP : va_P (dC, dI) vwCl [(h0, .inr (1, [.ref k0, .ref b0, .ref o0, .ref t0])), (b0, .inl (cB, 8, .inl (bf_put (bf_put B 0 w1) 4 w2)))] H := hP
  have hD : va_D A [(h0, .inr (1, [.ref k0, .ref b0, .ref o0, .ref t0])), (b0, .inl (cB, 8, .inl (bf_put (bf_put B 0 w1) 4 w2)))] := hD
  exact W.vret hx hb hr (fun t ht hW => ⟨⟨(), rfl, trivial, by rw [ht]; exact hP, hD⟩, hS.F ht⟩) hS.2.2 dX1_block_18
set_option maxHeartbeats 4000000 in
set_option maxRecDepth 100000 in
/-- mixed(x) -/
theorem met_X1_mixed (l : Launch) (dC : Nat → ClassId) (dI : Nat → Nat → Nat) (cB cI : ClassId) (h0 k0 b0 o0 t0 : Nat) (T : Nat → Int32) (x : Int32) : Met l yX1_mixed (ws_ yX1_mixed cX1_mixed 3 (some .int)) ({ frames := 0, cells := 0, slots := 0, locals := 0 }) (va_Pc [.ref h0, .int x] (bfRd (dC, dI) cB cI [(h0, .inr (1, [.ref k0, .ref b0, .ref o0, .ref t0])), (t0, .inl (cI, 1042, .inl T))])) (vp_Si (fun r => r = bf_F T x)) 0 0 (fun _ => False) := by
  refine Met.ofW (cc := cX1_mixed) (maxL := 3) (ret := (some .int)) (by decide) rfl ?_
  intro p e s m args below meth c s₁ hBo hml hv
  obtain ⟨rfl, hP, hK⟩ := hv
  have hx := hBo.exec
  have hb := hBo.bytes
  have hr := hBo.returns
  have hts := atoms_spec (ws := (ws_ yX1_mixed cX1_mixed 3 (some .int))) hBo.pre
  have hts : ∀ w ∈ lw_all, w.before _ s = true := fun w h => hts w (List.mem_cons_of_mem _ h)
  have hown : s.vm.findClass RX1 = some m.cls := findClass_of_methodNamed hBo.named
  have hlocks := hBo.notSynchronized
  have hl := lv_entry ([.ref h0, .int x]) (n := 3) (Nat.le_of_ble_eq_true rfl)
  rw [lg_entry_eq]
  generalize (lg_sl ([.ref h0, .int x]) ++ List.replicate (3 - (lg_sl ([.ref h0, .int x])).length) Slot.unset).toArray = ls at hl ⊢
  have hl : lv_has ls 3 [(0, .ref h0), (1, .int x)] := hl
  refine lv_aload_n hx hb dX1_mixed_0 rfl (lv_at hl 0 rfl) ?_
  refine va_get (D := (dC, dI)) (ci := 1) (v := .ref t0) (C := RX1) (T := TX1) (N := 4) hx hb hts in_X1 hown hK hP 0 rfl rfl 3 (by decide) (hts _ q322) (fun _ h9 => h9) rfl dX1_mixed_1 ?_
  refine lv_bipush (v := 18) hx hb dX1_mixed_4 (by decide) ?_
  refine lv_iload_n hx hb dX1_mixed_6 rfl (lv_at hl 1 rfl) ?_
  refine lv_bipush (v := 24) hx hb dX1_mixed_7 (by decide) ?_
  refine lv_iushr (v := nI (bf_b3 x)) hx hb dX1_mixed_9 (bf_u24 x) ?_
  refine lv_iadd hx hb dX1_mixed_10 ?_
  refine bf_topE (y := nI (18 + bf_b3 x)) (nI_add 18 _) ?_
  refine bf_iald hx hb hK hP 1 1 rfl rfl dX1_mixed_11 (18 + bf_b3 x) rfl (by have := bf_b3_lt x; omega) (Nat.le_of_ble_eq_true rfl) ?_
  refine lv_aload_n hx hb dX1_mixed_12 rfl (lv_at hl 0 rfl) ?_
  refine va_get (D := (dC, dI)) (ci := 1) (v := .ref t0) (C := RX1) (T := TX1) (N := 4) hx hb hts in_X1 hown hK hP 0 rfl rfl 3 (by decide) (hts _ q322) (fun _ h9 => h9) rfl dX1_mixed_13 ?_
  refine lv_sipush (v := 274) hx hb dX1_mixed_16 (by decide) ?_
  refine lv_iload_n hx hb dX1_mixed_19 rfl (lv_at hl 1 rfl) ?_
  refine lv_bipush (v := 16) hx hb dX1_mixed_20 (by decide) ?_
  refine lv_iushr (v := nI (x.toBitVec.toNat / 2 ^ 16)) hx hb dX1_mixed_22 (bf_u16 x) ?_
  refine lv_sipush (v := 255) hx hb dX1_mixed_23 (by decide) ?_
  refine lv_iand hx hb dX1_mixed_26 ?_
  refine bf_topE (y := nI (bf_b2 x)) (bf_a2 x) ?_
  refine lv_iadd hx hb dX1_mixed_27 ?_
  refine bf_topE (y := nI (274 + bf_b2 x)) (nI_add 274 _) ?_
  refine bf_iald hx hb hK hP 1 1 rfl rfl dX1_mixed_28 (274 + bf_b2 x) rfl (by have := bf_b2_lt x; omega) (Nat.le_of_ble_eq_true rfl) ?_
  refine lv_iadd hx hb dX1_mixed_29 ?_
  refine lv_istore_n (lv' := [(2, .int ((T (18 + bf_b3 x)) + (T (274 + bf_b2 x)))), (0, .ref h0), (1, .int x)]) hx hb dX1_mixed_30 rfl hl (by decide) rfl (fun ls hl => ?_)
  refine lv_iload_n hx hb dX1_mixed_31 rfl (lv_at hl 0 rfl) ?_
  refine lv_aload_n hx hb dX1_mixed_32 rfl (lv_at hl 1 rfl) ?_
  refine va_get (D := (dC, dI)) (ci := 1) (v := .ref t0) (C := RX1) (T := TX1) (N := 4) hx hb hts in_X1 hown hK hP 0 rfl rfl 3 (by decide) (hts _ q322) (fun _ h9 => h9) rfl dX1_mixed_33 ?_
  refine lv_sipush (v := 530) hx hb dX1_mixed_36 (by decide) ?_
  refine lv_iload_n hx hb dX1_mixed_39 rfl (lv_at hl 2 rfl) ?_
  refine lv_bipush (v := 8) hx hb dX1_mixed_40 (by decide) ?_
  refine lv_iushr (v := nI (x.toBitVec.toNat / 2 ^ 8)) hx hb dX1_mixed_42 (bf_u8 x) ?_
  refine lv_sipush (v := 255) hx hb dX1_mixed_43 (by decide) ?_
  refine lv_iand hx hb dX1_mixed_46 ?_
  refine bf_topE (y := nI (bf_b1 x)) (bf_a1 x) ?_
  refine lv_iadd hx hb dX1_mixed_47 ?_
  refine bf_topE (y := nI (530 + bf_b1 x)) (nI_add 530 _) ?_
  refine bf_iald hx hb hK hP 1 1 rfl rfl dX1_mixed_48 (530 + bf_b1 x) rfl (by have := bf_b1_lt x; omega) (Nat.le_of_ble_eq_true rfl) ?_
  refine lv_ixor hx hb dX1_mixed_49 ?_
  refine lv_aload_n hx hb dX1_mixed_50 rfl (lv_at hl 1 rfl) ?_
  refine va_get (D := (dC, dI)) (ci := 1) (v := .ref t0) (C := RX1) (T := TX1) (N := 4) hx hb hts in_X1 hown hK hP 0 rfl rfl 3 (by decide) (hts _ q322) (fun _ h9 => h9) rfl dX1_mixed_51 ?_
  refine lv_sipush (v := 786) hx hb dX1_mixed_54 (by decide) ?_
  refine lv_iload_n hx hb dX1_mixed_57 rfl (lv_at hl 2 rfl) ?_
  refine lv_sipush (v := 255) hx hb dX1_mixed_58 (by decide) ?_
  refine lv_iand hx hb dX1_mixed_61 ?_
  refine bf_topE (y := nI (bf_b0 x)) (bf_a0 x) ?_
  refine lv_iadd hx hb dX1_mixed_62 ?_
  refine bf_topE (y := nI (786 + bf_b0 x)) (nI_add 786 _) ?_
  refine bf_iald hx hb hK hP 1 1 rfl rfl dX1_mixed_63 (786 + bf_b0 x) rfl (by have := bf_b0_lt x; omega) (Nat.le_of_ble_eq_true rfl) ?_
  refine lv_iadd hx hb dX1_mixed_64 ?_
  exact W.iret (v := ((((T (18 + bf_b3 x)) + (T (274 + bf_b2 x))) ^^^ (T (530 + bf_b1 x))) + (T (786 + bf_b0 x)))) hx hb hr (fun t ht hW => ⟨_, rfl, rfl, by rw [ht]⟩) (fun q h => by cases h) dX1_mixed_65
set_option maxHeartbeats 4000000 in
set_option maxRecDepth 100000 in
/-- runs(x, y, 1) -/
theorem met_X1_runs_2_1 (l : Launch) (dC : Nat → ClassId) (dI : Nat → Nat → Nat) (cB cI : ClassId) (h0 k0 b0 o0 t0 : Nat) (T : Nat → Int32) (x y : Int32) : Met l yX1_runs_2 (ws_ yX1_runs_2 cX1_runs_2 8 (some .long)) ({ frames := 1, cells := 0, slots := 0, locals := 22 }) (va_Pc [.ref h0, .int x, .int y, .int 1] (bfRd (dC, dI) cB cI [(h0, .inr (1, [.ref k0, .ref b0, .ref o0, .ref t0])), (t0, .inl (cI, 1042, .inl T))])) (vp_Sl (fun r => r = bf_lg (bf_cr T T x y).1 (bf_cr T T x y).2)) 0 0 (fun _ => False) := by
  refine Met.ofW (cc := cX1_runs_2) (maxL := 8) (ret := (some .long)) (by decide) rfl ?_
  intro p e s m args below meth c s₁ hBo hml hv
  obtain ⟨rfl, hP, hK⟩ := hv
  have hx := hBo.exec
  have hb := hBo.bytes
  have hr := hBo.returns
  have hts := atoms_spec (ws := (ws_ yX1_runs_2 cX1_runs_2 8 (some .long))) hBo.pre
  have hts : ∀ w ∈ lw_all, w.before _ s = true := fun w h => hts w (List.mem_cons_of_mem _ h)
  have hown : s.vm.findClass RX1 = some m.cls := findClass_of_methodNamed hBo.named
  have hlocks := hBo.notSynchronized
  have hl := lv_entry ([.ref h0, .int x, .int y, .int 1]) (n := 8) (Nat.le_of_ble_eq_true rfl)
  rw [lg_entry_eq]
  generalize (lg_sl ([.ref h0, .int x, .int y, .int 1]) ++ List.replicate (8 - (lg_sl ([.ref h0, .int x, .int y, .int 1])).length) Slot.unset).toArray = ls at hl ⊢
  have hl : lv_has ls 8 [(0, .ref h0), (1, .int x), (2, .int y), (3, .int 1)] := hl
  refine lv_iload_n hx hb dX1_runs_2_0 rfl (lv_at hl 1 rfl) ?_
  refine lv_istore (lv' := [(4, .int x), (0, .ref h0), (1, .int x), (2, .int y), (3, .int 1)]) hx hb dX1_runs_2_1 hl (by decide) rfl (fun ls hl => ?_)
  refine lv_iload_n hx hb dX1_runs_2_3 rfl (lv_at hl 3 rfl) ?_
  refine lv_istore (lv' := [(5, .int y), (4, .int x), (0, .ref h0), (1, .int x), (2, .int y), (3, .int 1)]) hx hb dX1_runs_2_4 hl (by decide) rfl (fun ls hl => ?_)
  refine lv_iconst (v := 0) hx hb dX1_runs_2_6 (by decide) ?_
  refine lv_istore (lv' := [(6, .int 0), (5, .int y), (4, .int x), (0, .ref h0), (1, .int x), (2, .int y), (3, .int 1)]) hx hb dX1_runs_2_7 hl (by decide) rfl (fun ls hl => ?_)
  have hl := lv_sub (l' := [(0, .ref h0), (3, .int 1), (4, .int x), (5, .int y), (6, .int 0)]) hl [3, 6, 2, 1, 0] rfl
  refine bf_while 16 (fun i H locs ls => H = s.heap ∧ locs = [] ∧ lv_has ls 8 [(0, .ref h0), (3, .int 1), (4, .int (bf_rn T T x y (i)).1), (5, .int (bf_rn T T x y (i)).2), (6, .int (nI (i)))]) (fun _ => 0) (fun _ => 0) 0 (Nat.zero_le _) ⟨rfl, rfl, hl⟩ (fun H locs ls hI => ?_) (fun i hi ih H locs ls hI => ?_)
  · obtain ⟨rfl, rfl, hl⟩ := hI
    refine lv_iload hx hb dX1_runs_2_9 (lv_at hl 4 rfl) ?_
    refine lv_bipush (v := 16) hx hb dX1_runs_2_11 (by decide) ?_
    refine lv_icmp_ge (tgt := 69) hx hb dX1_runs_2_13 (by decide) (fun _ => ?_) (fun h9 => absurd (nI_le (a := 16) (b := 16) (Nat.le_of_ble_eq_true rfl) (Nat.le_of_ble_eq_true rfl)) h9)
    refine lv_iload hx hb dX1_runs_2_69 (lv_at hl 3 rfl) ?_
    refine lv_aload_n hx hb dX1_runs_2_71 rfl (lv_at hl 0 rfl) ?_
    refine va_get (D := (dC, dI)) (ci := 1) (v := .ref t0) (C := RX1) (T := TX1) (N := 4) hx hb hts in_X1 hown hK hP 0 rfl rfl 3 (by decide) (hts _ q322) (fun _ h9 => h9) rfl dX1_runs_2_72 ?_
    refine lv_iload_n hx hb dX1_runs_2_75 rfl (lv_at hl 1 rfl) ?_
    refine lv_if_eq (tgt := 84) hx hb dX1_runs_2_76 (by decide) (fun h9 => absurd h9 (by decide)) (fun _ => ?_)
    refine lv_bipush (v := 17) hx hb dX1_runs_2_79 (by decide) ?_
    refine lv_goto (tgt := 85) hx hb dX1_runs_2_81 (by decide) ?_
    refine bf_iald hx hb hK hP 1 1 rfl rfl dX1_runs_2_85 17 rfl (Nat.le_of_ble_eq_true rfl) (Nat.le_of_ble_eq_true rfl) ?_
    refine lv_ixor hx hb dX1_runs_2_86 ?_
    refine bf_topE (y := (bf_cr T T x y).1) rfl ?_
    refine lv_istore (lv' := [(6, .int ((bf_cr T T x y).1)), (0, .ref h0), (3, .int 1), (4, .int (bf_rn T T x y (16)).1), (5, .int (bf_rn T T x y (16)).2)]) hx hb dX1_runs_2_87 hl (by decide) rfl (fun ls hl => ?_)
    refine lv_iload hx hb dX1_runs_2_89 (lv_at hl 3 rfl) ?_
    refine lv_aload_n hx hb dX1_runs_2_91 rfl (lv_at hl 1 rfl) ?_
    refine va_get (D := (dC, dI)) (ci := 1) (v := .ref t0) (C := RX1) (T := TX1) (N := 4) hx hb hts in_X1 hown hK hP 0 rfl rfl 3 (by decide) (hts _ q322) (fun _ h9 => h9) rfl dX1_runs_2_92 ?_
    refine lv_iload_n hx hb dX1_runs_2_95 rfl (lv_at hl 2 rfl) ?_
    refine lv_if_eq (tgt := 104) hx hb dX1_runs_2_96 (by decide) (fun h9 => absurd h9 (by decide)) (fun _ => ?_)
    refine lv_bipush (v := 16) hx hb dX1_runs_2_99 (by decide) ?_
    refine lv_goto (tgt := 105) hx hb dX1_runs_2_101 (by decide) ?_
    refine bf_iald hx hb hK hP 1 1 rfl rfl dX1_runs_2_105 16 rfl (Nat.le_of_ble_eq_true rfl) (Nat.le_of_ble_eq_true rfl) ?_
    refine lv_ixor hx hb dX1_runs_2_106 ?_
    refine bf_topE (y := (bf_cr T T x y).2) rfl ?_
    refine lv_istore (lv' := [(7, .int ((bf_cr T T x y).2)), (6, .int ((bf_cr T T x y).1)), (0, .ref h0), (3, .int 1), (4, .int (bf_rn T T x y (16)).1), (5, .int (bf_rn T T x y (16)).2)]) hx hb dX1_runs_2_107 hl (by decide) rfl (fun ls hl => ?_)
    refine lv_iload hx hb dX1_runs_2_109 (lv_at hl 1 rfl) ?_
    refine lv_i2l hx hb dX1_runs_2_111 rfl ?_
    refine lv_bipush (v := 32) hx hb dX1_runs_2_112 (by decide) ?_
    refine lv_lshl hx hb dX1_runs_2_114 rfl ?_
    refine lv_iload hx hb dX1_runs_2_115 (lv_at hl 0 rfl) ?_
    refine lv_i2l hx hb dX1_runs_2_117 rfl ?_
    refine lv_ldc2 hx hb hown (hts _ q365) dX1_runs_2_118 ?_
    refine lv_land hx hb dX1_runs_2_121 ?_
    refine lv_lor hx hb dX1_runs_2_122 ?_
    exact W.lret (v := bf_lg (bf_cr T T x y).1 (bf_cr T T x y).2) hx hb hr (fun t ht hW => ⟨_, rfl, rfl, by rw [ht]⟩) (fun q h => by cases h) dX1_runs_2_123
  · obtain ⟨rfl, rfl, hl⟩ := hI
    refine lv_iload hx hb dX1_runs_2_9 (lv_at hl 4 rfl) ?_
    refine lv_bipush (v := 16) hx hb dX1_runs_2_11 (by decide) ?_
    refine lv_icmp_ge (tgt := 69) hx hb dX1_runs_2_13 (by decide) (fun h9 => absurd h9 (nI_ge (a := i) (b := 16) hi (Nat.le_of_ble_eq_true rfl))) (fun _ => ?_)
    refine lv_iload hx hb dX1_runs_2_16 (lv_at hl 2 rfl) ?_
    refine lv_aload_n hx hb dX1_runs_2_18 rfl (lv_at hl 0 rfl) ?_
    refine va_get (D := (dC, dI)) (ci := 1) (v := .ref t0) (C := RX1) (T := TX1) (N := 4) hx hb hts in_X1 hown hK hP 0 rfl rfl 3 (by decide) (hts _ q322) (fun _ h9 => h9) rfl dX1_runs_2_19 ?_
    refine lv_iload_n hx hb dX1_runs_2_22 rfl (lv_at hl 1 rfl) ?_
    refine lv_if_eq (tgt := 31) hx hb dX1_runs_2_23 (by decide) (fun h9 => absurd h9 (by decide)) (fun _ => ?_)
    refine lv_iload hx hb dX1_runs_2_26 (lv_at hl 4 rfl) ?_
    refine lv_goto (tgt := 36) hx hb dX1_runs_2_28 (by decide) ?_
    refine bf_iald hx hb hK hP 1 1 rfl rfl dX1_runs_2_36 i rfl (by omega) (Nat.le_of_ble_eq_true rfl) ?_
    refine lv_ixor hx hb dX1_runs_2_37 ?_
    refine bf_topE (y := (bf_rn T T x y (i + 1)).2) rfl ?_
    refine lv_istore (lv' := [(4, .int ((bf_rn T T x y (i + 1)).2)), (0, .ref h0), (3, .int 1), (5, .int (bf_rn T T x y (i)).2), (6, .int (nI (i)))]) hx hb dX1_runs_2_38 hl (by decide) rfl (fun ls hl => ?_)
    refine lv_iload hx hb dX1_runs_2_40 (lv_at hl 3 rfl) ?_
    refine lv_aload_n hx hb dX1_runs_2_42 rfl (lv_at hl 1 rfl) ?_
    refine lv_iload hx hb dX1_runs_2_43 (lv_at hl 0 rfl) ?_
    refine bf_calli (va_Run.run (va_runV (As := [.int ((bf_rn T T x y (i + 1)).2)]) (rest := [.int (bf_rn T T x y (i)).2]) ⟨hx, hb, hml, hown, hts⟩ (met_X1_mixed l dC dI cB cI h0 k0 b0 o0 t0 T (bf_rn T T x y (i + 1)).2) (cwV 1 hts (lw_V q361 q363 qs12 q15 q364) rfl rfl rfl (by decide +kernel) ⟨Nat.le_of_ble_eq_true rfl, Nat.le_of_ble_eq_true rfl⟩) (bf_rdV hK hP [0, 1] rfl (ci := 1) (q0 := 0) rfl rfl) rfl rfl hl.1 rfl (lv_room (Nat.le_of_ble_eq_true rfl)) dX1_runs_2_45 ⟨Nat.le_of_ble_eq_true rfl, Nat.le_of_ble_eq_true rfl⟩)) ?_
    refine lv_ixor hx hb dX1_runs_2_48 ?_
    refine bf_topE (y := (bf_rn T T x y (i + 1)).1) rfl ?_
    refine lv_istore (lv' := [(5, .int ((bf_rn T T x y (i + 1)).1)), (4, .int ((bf_rn T T x y (i + 1)).2)), (0, .ref h0), (3, .int 1), (6, .int (nI (i)))]) hx hb dX1_runs_2_49 hl (by decide) rfl (fun ls hl => ?_)
    refine lv_iload hx hb dX1_runs_2_51 (lv_at hl 1 rfl) ?_
    refine lv_istore (lv' := [(7, .int ((bf_rn T T x y (i + 1)).2)), (5, .int ((bf_rn T T x y (i + 1)).1)), (4, .int ((bf_rn T T x y (i + 1)).2)), (0, .ref h0), (3, .int 1), (6, .int (nI (i)))]) hx hb dX1_runs_2_53 hl (by decide) rfl (fun ls hl => ?_)
    refine lv_iload hx hb dX1_runs_2_55 (lv_at hl 1 rfl) ?_
    refine lv_istore (lv' := [(4, .int ((bf_rn T T x y (i + 1)).1)), (7, .int ((bf_rn T T x y (i + 1)).2)), (5, .int ((bf_rn T T x y (i + 1)).1)), (0, .ref h0), (3, .int 1), (6, .int (nI (i)))]) hx hb dX1_runs_2_57 hl (by decide) rfl (fun ls hl => ?_)
    refine lv_iload hx hb dX1_runs_2_59 (lv_at hl 1 rfl) ?_
    refine lv_istore (lv' := [(5, .int ((bf_rn T T x y (i + 1)).2)), (4, .int ((bf_rn T T x y (i + 1)).1)), (7, .int ((bf_rn T T x y (i + 1)).2)), (0, .ref h0), (3, .int 1), (6, .int (nI (i)))]) hx hb dX1_runs_2_61 hl (by decide) rfl (fun ls hl => ?_)
    refine lv_iinc (v := nI (i + 1)) (lv' := [(6, .int (nI (i + 1))), (5, .int ((bf_rn T T x y (i + 1)).2)), (4, .int ((bf_rn T T x y (i + 1)).1)), (7, .int ((bf_rn T T x y (i + 1)).2)), (0, .ref h0), (3, .int 1)]) hx hb dX1_runs_2_63 hl (k := 5) rfl (nI_add i 1) (by decide) rfl (fun ls hl => ?_)
    refine lv_goto (tgt := 9) hx hb dX1_runs_2_66 (by decide) ?_
    exact ih _ _ ls ⟨rfl, rfl, lv_sub hl [4, 5, 2, 1, 0] rfl⟩
set_option maxHeartbeats 4000000 in
set_option maxRecDepth 100000 in
/-- runs(x, y, 0) -/
theorem met_X1_runs_2_0 (l : Launch) (dC : Nat → ClassId) (dI : Nat → Nat → Nat) (cB cI : ClassId) (h0 k0 b0 o0 t0 : Nat) (T : Nat → Int32) (x y : Int32) : Met l yX1_runs_2 (ws_ yX1_runs_2 cX1_runs_2 8 (some .long)) ({ frames := 1, cells := 0, slots := 0, locals := 22 }) (va_Pc [.ref h0, .int x, .int y, .int 0] (bfRd (dC, dI) cB cI [(h0, .inr (1, [.ref k0, .ref b0, .ref o0, .ref t0])), (t0, .inl (cI, 1042, .inl T))])) (vp_Sl (fun r => r = bf_lg (bf_cr T (fun i => T (17 - i)) x y).1 (bf_cr T (fun i => T (17 - i)) x y).2)) 0 0 (fun _ => False) := by
  refine Met.ofW (cc := cX1_runs_2) (maxL := 8) (ret := (some .long)) (by decide) rfl ?_
  intro p e s m args below meth c s₁ hBo hml hv
  obtain ⟨rfl, hP, hK⟩ := hv
  have hx := hBo.exec
  have hb := hBo.bytes
  have hr := hBo.returns
  have hts := atoms_spec (ws := (ws_ yX1_runs_2 cX1_runs_2 8 (some .long))) hBo.pre
  have hts : ∀ w ∈ lw_all, w.before _ s = true := fun w h => hts w (List.mem_cons_of_mem _ h)
  have hown : s.vm.findClass RX1 = some m.cls := findClass_of_methodNamed hBo.named
  have hlocks := hBo.notSynchronized
  have hl := lv_entry ([.ref h0, .int x, .int y, .int 0]) (n := 8) (Nat.le_of_ble_eq_true rfl)
  rw [lg_entry_eq]
  generalize (lg_sl ([.ref h0, .int x, .int y, .int 0]) ++ List.replicate (8 - (lg_sl ([.ref h0, .int x, .int y, .int 0])).length) Slot.unset).toArray = ls at hl ⊢
  have hl : lv_has ls 8 [(0, .ref h0), (1, .int x), (2, .int y), (3, .int 0)] := hl
  refine lv_iload_n hx hb dX1_runs_2_0 rfl (lv_at hl 1 rfl) ?_
  refine lv_istore (lv' := [(4, .int x), (0, .ref h0), (1, .int x), (2, .int y), (3, .int 0)]) hx hb dX1_runs_2_1 hl (by decide) rfl (fun ls hl => ?_)
  refine lv_iload_n hx hb dX1_runs_2_3 rfl (lv_at hl 3 rfl) ?_
  refine lv_istore (lv' := [(5, .int y), (4, .int x), (0, .ref h0), (1, .int x), (2, .int y), (3, .int 0)]) hx hb dX1_runs_2_4 hl (by decide) rfl (fun ls hl => ?_)
  refine lv_iconst (v := 0) hx hb dX1_runs_2_6 (by decide) ?_
  refine lv_istore (lv' := [(6, .int 0), (5, .int y), (4, .int x), (0, .ref h0), (1, .int x), (2, .int y), (3, .int 0)]) hx hb dX1_runs_2_7 hl (by decide) rfl (fun ls hl => ?_)
  have hl := lv_sub (l' := [(0, .ref h0), (3, .int 0), (4, .int x), (5, .int y), (6, .int 0)]) hl [3, 6, 2, 1, 0] rfl
  refine bf_while 16 (fun i H locs ls => H = s.heap ∧ locs = [] ∧ lv_has ls 8 [(0, .ref h0), (3, .int 0), (4, .int (bf_rn T (fun i => T (17 - i)) x y (i)).1), (5, .int (bf_rn T (fun i => T (17 - i)) x y (i)).2), (6, .int (nI (i)))]) (fun _ => 0) (fun _ => 0) 0 (Nat.zero_le _) ⟨rfl, rfl, hl⟩ (fun H locs ls hI => ?_) (fun i hi ih H locs ls hI => ?_)
  · obtain ⟨rfl, rfl, hl⟩ := hI
    refine lv_iload hx hb dX1_runs_2_9 (lv_at hl 4 rfl) ?_
    refine lv_bipush (v := 16) hx hb dX1_runs_2_11 (by decide) ?_
    refine lv_icmp_ge (tgt := 69) hx hb dX1_runs_2_13 (by decide) (fun _ => ?_) (fun h9 => absurd (nI_le (a := 16) (b := 16) (Nat.le_of_ble_eq_true rfl) (Nat.le_of_ble_eq_true rfl)) h9)
    refine lv_iload hx hb dX1_runs_2_69 (lv_at hl 3 rfl) ?_
    refine lv_aload_n hx hb dX1_runs_2_71 rfl (lv_at hl 0 rfl) ?_
    refine va_get (D := (dC, dI)) (ci := 1) (v := .ref t0) (C := RX1) (T := TX1) (N := 4) hx hb hts in_X1 hown hK hP 0 rfl rfl 3 (by decide) (hts _ q322) (fun _ h9 => h9) rfl dX1_runs_2_72 ?_
    refine lv_iload_n hx hb dX1_runs_2_75 rfl (lv_at hl 1 rfl) ?_
    refine lv_if_eq (tgt := 84) hx hb dX1_runs_2_76 (by decide) (fun _ => ?_) (fun h9 => absurd rfl h9)
    refine lv_iconst (v := 0) hx hb dX1_runs_2_84 (by decide) ?_
    refine bf_iald hx hb hK hP 1 1 rfl rfl dX1_runs_2_85 0 rfl (Nat.le_of_ble_eq_true rfl) (Nat.le_of_ble_eq_true rfl) ?_
    refine lv_ixor hx hb dX1_runs_2_86 ?_
    refine bf_topE (y := (bf_cr T (fun i => T (17 - i)) x y).1) rfl ?_
    refine lv_istore (lv' := [(6, .int ((bf_cr T (fun i => T (17 - i)) x y).1)), (0, .ref h0), (3, .int 0), (4, .int (bf_rn T (fun i => T (17 - i)) x y (16)).1), (5, .int (bf_rn T (fun i => T (17 - i)) x y (16)).2)]) hx hb dX1_runs_2_87 hl (by decide) rfl (fun ls hl => ?_)
    refine lv_iload hx hb dX1_runs_2_89 (lv_at hl 3 rfl) ?_
    refine lv_aload_n hx hb dX1_runs_2_91 rfl (lv_at hl 1 rfl) ?_
    refine va_get (D := (dC, dI)) (ci := 1) (v := .ref t0) (C := RX1) (T := TX1) (N := 4) hx hb hts in_X1 hown hK hP 0 rfl rfl 3 (by decide) (hts _ q322) (fun _ h9 => h9) rfl dX1_runs_2_92 ?_
    refine lv_iload_n hx hb dX1_runs_2_95 rfl (lv_at hl 2 rfl) ?_
    refine lv_if_eq (tgt := 104) hx hb dX1_runs_2_96 (by decide) (fun _ => ?_) (fun h9 => absurd rfl h9)
    refine lv_iconst (v := 1) hx hb dX1_runs_2_104 (by decide) ?_
    refine bf_iald hx hb hK hP 1 1 rfl rfl dX1_runs_2_105 1 rfl (Nat.le_of_ble_eq_true rfl) (Nat.le_of_ble_eq_true rfl) ?_
    refine lv_ixor hx hb dX1_runs_2_106 ?_
    refine bf_topE (y := (bf_cr T (fun i => T (17 - i)) x y).2) rfl ?_
    refine lv_istore (lv' := [(7, .int ((bf_cr T (fun i => T (17 - i)) x y).2)), (6, .int ((bf_cr T (fun i => T (17 - i)) x y).1)), (0, .ref h0), (3, .int 0), (4, .int (bf_rn T (fun i => T (17 - i)) x y (16)).1), (5, .int (bf_rn T (fun i => T (17 - i)) x y (16)).2)]) hx hb dX1_runs_2_107 hl (by decide) rfl (fun ls hl => ?_)
    refine lv_iload hx hb dX1_runs_2_109 (lv_at hl 1 rfl) ?_
    refine lv_i2l hx hb dX1_runs_2_111 rfl ?_
    refine lv_bipush (v := 32) hx hb dX1_runs_2_112 (by decide) ?_
    refine lv_lshl hx hb dX1_runs_2_114 rfl ?_
    refine lv_iload hx hb dX1_runs_2_115 (lv_at hl 0 rfl) ?_
    refine lv_i2l hx hb dX1_runs_2_117 rfl ?_
    refine lv_ldc2 hx hb hown (hts _ q365) dX1_runs_2_118 ?_
    refine lv_land hx hb dX1_runs_2_121 ?_
    refine lv_lor hx hb dX1_runs_2_122 ?_
    exact W.lret (v := bf_lg (bf_cr T (fun i => T (17 - i)) x y).1 (bf_cr T (fun i => T (17 - i)) x y).2) hx hb hr (fun t ht hW => ⟨_, rfl, rfl, by rw [ht]⟩) (fun q h => by cases h) dX1_runs_2_123
  · obtain ⟨rfl, rfl, hl⟩ := hI
    refine lv_iload hx hb dX1_runs_2_9 (lv_at hl 4 rfl) ?_
    refine lv_bipush (v := 16) hx hb dX1_runs_2_11 (by decide) ?_
    refine lv_icmp_ge (tgt := 69) hx hb dX1_runs_2_13 (by decide) (fun h9 => absurd h9 (nI_ge (a := i) (b := 16) hi (Nat.le_of_ble_eq_true rfl))) (fun _ => ?_)
    refine lv_iload hx hb dX1_runs_2_16 (lv_at hl 2 rfl) ?_
    refine lv_aload_n hx hb dX1_runs_2_18 rfl (lv_at hl 0 rfl) ?_
    refine va_get (D := (dC, dI)) (ci := 1) (v := .ref t0) (C := RX1) (T := TX1) (N := 4) hx hb hts in_X1 hown hK hP 0 rfl rfl 3 (by decide) (hts _ q322) (fun _ h9 => h9) rfl dX1_runs_2_19 ?_
    refine lv_iload_n hx hb dX1_runs_2_22 rfl (lv_at hl 1 rfl) ?_
    refine lv_if_eq (tgt := 31) hx hb dX1_runs_2_23 (by decide) (fun _ => ?_) (fun h9 => absurd rfl h9)
    refine lv_bipush (v := 17) hx hb dX1_runs_2_31 (by decide) ?_
    refine lv_iload hx hb dX1_runs_2_33 (lv_at hl 4 rfl) ?_
    refine lv_isub hx hb dX1_runs_2_35 ?_
    refine bf_topE (y := nI (17 - i)) (bf_sub17 (by omega)) ?_
    refine bf_iald hx hb hK hP 1 1 rfl rfl dX1_runs_2_36 (17 - i) rfl (by omega) (Nat.le_of_ble_eq_true rfl) ?_
    refine lv_ixor hx hb dX1_runs_2_37 ?_
    refine bf_topE (y := (bf_rn T (fun i => T (17 - i)) x y (i + 1)).2) rfl ?_
    refine lv_istore (lv' := [(4, .int ((bf_rn T (fun i => T (17 - i)) x y (i + 1)).2)), (0, .ref h0), (3, .int 0), (5, .int (bf_rn T (fun i => T (17 - i)) x y (i)).2), (6, .int (nI (i)))]) hx hb dX1_runs_2_38 hl (by decide) rfl (fun ls hl => ?_)
    refine lv_iload hx hb dX1_runs_2_40 (lv_at hl 3 rfl) ?_
    refine lv_aload_n hx hb dX1_runs_2_42 rfl (lv_at hl 1 rfl) ?_
    refine lv_iload hx hb dX1_runs_2_43 (lv_at hl 0 rfl) ?_
    refine bf_calli (va_Run.run (va_runV (As := [.int ((bf_rn T (fun i => T (17 - i)) x y (i + 1)).2)]) (rest := [.int (bf_rn T (fun i => T (17 - i)) x y (i)).2]) ⟨hx, hb, hml, hown, hts⟩ (met_X1_mixed l dC dI cB cI h0 k0 b0 o0 t0 T (bf_rn T (fun i => T (17 - i)) x y (i + 1)).2) (cwV 1 hts (lw_V q361 q363 qs12 q15 q364) rfl rfl rfl (by decide +kernel) ⟨Nat.le_of_ble_eq_true rfl, Nat.le_of_ble_eq_true rfl⟩) (bf_rdV hK hP [0, 1] rfl (ci := 1) (q0 := 0) rfl rfl) rfl rfl hl.1 rfl (lv_room (Nat.le_of_ble_eq_true rfl)) dX1_runs_2_45 ⟨Nat.le_of_ble_eq_true rfl, Nat.le_of_ble_eq_true rfl⟩)) ?_
    refine lv_ixor hx hb dX1_runs_2_48 ?_
    refine bf_topE (y := (bf_rn T (fun i => T (17 - i)) x y (i + 1)).1) rfl ?_
    refine lv_istore (lv' := [(5, .int ((bf_rn T (fun i => T (17 - i)) x y (i + 1)).1)), (4, .int ((bf_rn T (fun i => T (17 - i)) x y (i + 1)).2)), (0, .ref h0), (3, .int 0), (6, .int (nI (i)))]) hx hb dX1_runs_2_49 hl (by decide) rfl (fun ls hl => ?_)
    refine lv_iload hx hb dX1_runs_2_51 (lv_at hl 1 rfl) ?_
    refine lv_istore (lv' := [(7, .int ((bf_rn T (fun i => T (17 - i)) x y (i + 1)).2)), (5, .int ((bf_rn T (fun i => T (17 - i)) x y (i + 1)).1)), (4, .int ((bf_rn T (fun i => T (17 - i)) x y (i + 1)).2)), (0, .ref h0), (3, .int 0), (6, .int (nI (i)))]) hx hb dX1_runs_2_53 hl (by decide) rfl (fun ls hl => ?_)
    refine lv_iload hx hb dX1_runs_2_55 (lv_at hl 1 rfl) ?_
    refine lv_istore (lv' := [(4, .int ((bf_rn T (fun i => T (17 - i)) x y (i + 1)).1)), (7, .int ((bf_rn T (fun i => T (17 - i)) x y (i + 1)).2)), (5, .int ((bf_rn T (fun i => T (17 - i)) x y (i + 1)).1)), (0, .ref h0), (3, .int 0), (6, .int (nI (i)))]) hx hb dX1_runs_2_57 hl (by decide) rfl (fun ls hl => ?_)
    refine lv_iload hx hb dX1_runs_2_59 (lv_at hl 1 rfl) ?_
    refine lv_istore (lv' := [(5, .int ((bf_rn T (fun i => T (17 - i)) x y (i + 1)).2)), (4, .int ((bf_rn T (fun i => T (17 - i)) x y (i + 1)).1)), (7, .int ((bf_rn T (fun i => T (17 - i)) x y (i + 1)).2)), (0, .ref h0), (3, .int 0), (6, .int (nI (i)))]) hx hb dX1_runs_2_61 hl (by decide) rfl (fun ls hl => ?_)
    refine lv_iinc (v := nI (i + 1)) (lv' := [(6, .int (nI (i + 1))), (5, .int ((bf_rn T (fun i => T (17 - i)) x y (i + 1)).2)), (4, .int ((bf_rn T (fun i => T (17 - i)) x y (i + 1)).1)), (7, .int ((bf_rn T (fun i => T (17 - i)) x y (i + 1)).2)), (0, .ref h0), (3, .int 0)]) hx hb dX1_runs_2_63 hl (k := 5) rfl (nI_add i 1) (by decide) rfl (fun ls hl => ?_)
    refine lv_goto (tgt := 9) hx hb dX1_runs_2_66 (by decide) ?_
    exact ih _ _ ls ⟨rfl, rfl, lv_sub hl [4, 5, 2, 1, 0] rfl⟩
set_option maxHeartbeats 4000000 in
set_option maxRecDepth 100000 in
/-- sets(kind): the table as the key makes it -/
theorem met_X1_sets (l : Launch) (dC : Nat → ClassId) (dI : Nat → Nat → Nat) (cB cI : ClassId) (tS : Nat → Nat) (sz : Nat) (h0 k0 b0 o0 t0 : Nat) (K T : Nat → Int32) (x : Int32) : Met l yX1_sets (ws_ yX1_sets cX1_sets 7 none) ({ frames := 2, cells := 0, slots := 0, locals := 49 }) (va_Pc [.ref h0, .int x] (bfPreX (dC, dI) cB cI tS [(h0, .inr (1, [.ref k0, .ref b0, .ref o0, .ref t0])), (k0, .inl (cB, 32, .inl K)), (t0, .inl (cI, 1042, .inl T))] sz)) (va_Qv (fun _ : Unit => True) (fun _ t => bfPost (dC, dI) [(h0, .inr (1, [.ref k0, .ref b0, .ref o0, .ref t0])), (k0, .inl (cB, 32, .inl K)), (t0, .inl (cI, 1042, .inl (bf_sch bf_PI K (bf_n x))))] (va_A [(h0, .inr (1, [.ref k0, .ref b0, .ref o0, .ref t0])), (k0, .inl (cB, 32, .inl K)), (t0, .inl (cI, 1042, .inl T))] sz) t) (va_A [(h0, .inr (1, [.ref k0, .ref b0, .ref o0, .ref t0])), (k0, .inl (cB, 32, .inl K)), (t0, .inl (cI, 1042, .inl T))] sz)) 0 0 (va_A [(h0, .inr (1, [.ref k0, .ref b0, .ref o0, .ref t0])), (k0, .inl (cB, 32, .inl K)), (t0, .inl (cI, 1042, .inl T))] sz) := by
  refine Met.ofW (cc := cX1_sets) (maxL := 7) (ret := none) (by decide) rfl ?_
  intro p e s m args below meth c s₁ hBo hml hv
  obtain ⟨rfl, ⟨hsz, hP, hK, hD0⟩, hX⟩ := hv
  have hx := hBo.exec
  have hb := hBo.bytes
  have hr := hBo.returns
  have hts := atoms_spec (ws := (ws_ yX1_sets cX1_sets 7 none)) hBo.pre
  have hts : ∀ w ∈ lw_all, w.before _ s = true := fun w h => hts w (List.mem_cons_of_mem _ h)
  have hown : s.vm.findClass RX1 = some m.cls := findClass_of_methodNamed hBo.named
  have hlocks := hBo.notSynchronized
  subst hsz
  have hD := hD0.self (sz := s.heap.size)
  generalize hAe : va_A [(h0, .inr (1, [.ref k0, .ref b0, .ref o0, .ref t0])), (k0, .inl (cB, 32, .inl K)), (t0, .inl (cI, 1042, .inl T))] s.heap.size = A at hD ⊢ hX
  have hA : ∀ q : Nat, s.heap.size ≤ q → A q := fun q h => by rw [← hAe]; exact Or.inr h
  have hS : va_S A s.heap s.heap [] := va_S.rf
  have hl := lv_entry ([.ref h0, .int x]) (n := 7) (Nat.le_of_ble_eq_true rfl)
  rw [lg_entry_eq]
  generalize (lg_sl ([.ref h0, .int x]) ++ List.replicate (7 - (lg_sl ([.ref h0, .int x])).length) Slot.unset).toArray = ls at hl ⊢
  have hl : lv_has ls 7 [(0, .ref h0), (1, .int x)] := hl
  have hn8 := bf_n_ge x
  have hn24 := bf_n_le x
  obtain ⟨-, -, -, -, -, hX5, -, -⟩ := id hX
  refine lv_bipush (v := 8) hx hb dX1_sets_0 (by decide) ?_
  refine lv_bipush (v := 8) hx hb dX1_sets_2 (by decide) ?_
  refine lv_iload_n hx hb dX1_sets_4 rfl (lv_at hl 1 rfl) ?_
  refine lv_iconst (v := 3) hx hb dX1_sets_5 (by decide) ?_
  refine lv_iand hx hb dX1_sets_6 ?_
  refine bf_topE (y := nI (x.toBitVec.toNat % 2 ^ 2)) (pk_and x 2 (by decide)) ?_
  refine lv_iconst (v := 3) hx hb dX1_sets_7 (by decide) ?_
  refine lv_irem hx hb dX1_sets_8 (by decide) ?_
  refine bf_topE (y := nI (x.toBitVec.toNat % 4 % 3)) (bf_r3 x) ?_
  refine lv_imul hx hb dX1_sets_9 ?_
  refine lv_iadd hx hb dX1_sets_10 ?_
  refine bf_topE (y := nI (bf_n x)) (bf_n88 x) ?_
  refine lv_istore_n (lv' := [(2, .int (nI (bf_n x))), (0, .ref h0), (1, .int x)]) hx hb dX1_sets_11 rfl hl (by decide) rfl (fun ls hl => ?_)
  refine lv_iconst (v := 0) hx hb dX1_sets_12 (by decide) ?_
  refine lv_istore_n (lv' := [(3, .int 0), (2, .int (nI (bf_n x))), (0, .ref h0), (1, .int x)]) hx hb dX1_sets_13 rfl hl (by decide) rfl (fun ls hl => ?_)
  refine lv_iconst (v := 0) hx hb dX1_sets_14 (by decide) ?_
  refine lv_istore (lv' := [(4, .int 0), (3, .int 0), (2, .int (nI (bf_n x))), (0, .ref h0), (1, .int x)]) hx hb dX1_sets_15 hl (by decide) rfl (fun ls hl => ?_)
  have hP : va_P (dC, dI) vwCl [(h0, .inr (1, [.ref k0, .ref b0, .ref o0, .ref t0])), (k0, .inl (cB, 32, .inl K)), (t0, .inl (cI, 1042, .inl (bf_cq T bf_PI 0)))] s.heap := by rw [bf_cq_0]; exact hP
  have hD : va_D A [(h0, .inr (1, [.ref k0, .ref b0, .ref o0, .ref t0])), (k0, .inl (cB, 32, .inl K)), (t0, .inl (cI, 1042, .inl (bf_cq T bf_PI 0)))] := by rw [bf_cq_0]; exact hD
  have hl := lv_sub (l' := [(0, .ref h0), (2, .int (nI (bf_n x))), (3, .int 0), (4, .int 0)]) hl [3, 2, 1, 0] rfl
  refine bf_while 1042 (fun i H locs ls => va_P (dC, dI) vwCl [(h0, .inr (1, [.ref k0, .ref b0, .ref o0, .ref t0])), (k0, .inl (cB, 32, .inl K)), (t0, .inl (cI, 1042, .inl (bf_cq T bf_PI i)))] H ∧ va_D A [(h0, .inr (1, [.ref k0, .ref b0, .ref o0, .ref t0])), (k0, .inl (cB, 32, .inl K)), (t0, .inl (cI, 1042, .inl (bf_cq T bf_PI i)))] ∧ va_S A s.heap H locs ∧ lv_has ls 7 [(0, .ref h0), (2, .int (nI (bf_n x))), (3, .int 0), (4, .int (nI i))]) (fun _ => 0) (fun _ => 0) 0 (Nat.zero_le _) ⟨hP, hD, hS, hl⟩ (fun H locs ls hI => ?_) (fun i hi ih H locs ls hI => ?_)
  · obtain ⟨hP, hD, hS, hl⟩ := hI
    refine lv_iload hx hb dX1_sets_17 (lv_at hl 3 rfl) ?_
    refine lv_sipush (v := 1042) hx hb dX1_sets_19 (by decide) ?_
    refine lv_icmp_ge (tgt := 44) hx hb dX1_sets_22 (by decide) (fun _ => ?_) (fun h9 => absurd (nI_le (a := 1042) (b := 1042) (Nat.le_of_ble_eq_true rfl) (Nat.le_of_ble_eq_true rfl)) h9)
    have hP := bf_P.re (ws' := [(h0, .inr (1, [.ref k0, .ref b0, .ref o0, .ref t0])), (k0, .inl (cB, 32, .inl K)), (t0, .inl (cI, 1042, .inl (bf_T0 bf_PI K (bf_n x) 0)))]) hP 2 (g := bf_T0 bf_PI K (bf_n x) 0) rfl (fun j hj => by rw [bf_T0_0]; unfold bf_cq; rw [if_pos hj]) rfl
    have hD := bf_D.re (ws' := [(h0, .inr (1, [.ref k0, .ref b0, .ref o0, .ref t0])), (k0, .inl (cB, 32, .inl K)), (t0, .inl (cI, 1042, .inl (bf_T0 bf_PI K (bf_n x) 0)))]) hD [h0, k0, t0] rfl rfl
    have hP : va_P (dC, dI) vwCl [(h0, .inr (1, [.ref k0, .ref b0, .ref o0, .ref t0])), (k0, .inl (cB, 32, .inl K)), (t0, .inl (cI, 1042, .inl (bf_T0 bf_PI K (bf_n x) 0)))] H := hP
    have hD : va_D A [(h0, .inr (1, [.ref k0, .ref b0, .ref o0, .ref t0])), (k0, .inl (cB, 32, .inl K)), (t0, .inl (cI, 1042, .inl (bf_T0 bf_PI K (bf_n x) 0)))] := hD
    refine lv_iconst (v := 0) hx hb dX1_sets_44 (by decide) ?_
    refine lv_istore (lv' := [(4, .int 0), (0, .ref h0), (2, .int (nI (bf_n x))), (3, .int 0)]) hx hb dX1_sets_45 hl (by decide) rfl (fun ls hl => ?_)
    have hl := lv_sub (l' := [(0, .ref h0), (2, .int (nI (bf_n x))), (3, .int 0), (4, .int 0)]) hl [1, 2, 3, 0] rfl
    have hl : lv_has ls 7 [(0, .ref h0), (2, .int (nI (bf_n x))), (3, .int (nI (4 * 0 % (bf_n x)))), (4, .int (nI 0))] := by
      rw [show 4 * 0 % (bf_n x) = 0 from Nat.zero_mod _]
      exact hl
    refine bf_while 18 (fun i H locs ls => va_P (dC, dI) vwCl [(h0, .inr (1, [.ref k0, .ref b0, .ref o0, .ref t0])), (k0, .inl (cB, 32, .inl K)), (t0, .inl (cI, 1042, .inl (bf_T0 bf_PI K (bf_n x) i)))] H ∧ va_D A [(h0, .inr (1, [.ref k0, .ref b0, .ref o0, .ref t0])), (k0, .inl (cB, 32, .inl K)), (t0, .inl (cI, 1042, .inl (bf_T0 bf_PI K (bf_n x) i)))] ∧ va_S A s.heap H locs ∧ lv_has ls 7 [(0, .ref h0), (2, .int (nI (bf_n x))), (3, .int (nI (4 * i % (bf_n x)))), (4, .int (nI i))]) (fun _ => 0) (fun _ => 0) 0 (Nat.zero_le _) ⟨hP, hD, hS, hl⟩ (fun H locs ls hI => ?_) (fun i hi ih H locs ls hI => ?_)
    · obtain ⟨hP, hD, hS, hl⟩ := hI
      refine lv_iload hx hb dX1_sets_47 (lv_at hl 3 rfl) ?_
      refine lv_bipush (v := 18) hx hb dX1_sets_49 (by decide) ?_
      refine lv_icmp_ge (tgt := 114) hx hb dX1_sets_51 (by decide) (fun _ => ?_) (fun h9 => absurd (nI_le (a := 18) (b := 18) (Nat.le_of_ble_eq_true rfl) (Nat.le_of_ble_eq_true rfl)) h9)
      refine lv_lconst (v := 0) hx hb dX1_sets_114 (by decide) ?_
      refine bf_topL (y := bf_lg 0 0) bf_lg_0 ?_
      refine lv_lstore (lv' := [(4, .long (bf_lg 0 0)), (0, .ref h0), (2, .int (nI (bf_n x))), (3, .int (nI (4 * 18 % (bf_n x))))]) hx hb dX1_sets_115 hl (by decide) rfl (fun ls hl => ?_)
      refine lv_iconst (v := 0) hx hb dX1_sets_117 (by decide) ?_
      refine lv_istore (lv' := [(6, .int 0), (4, .long (bf_lg 0 0)), (0, .ref h0), (2, .int (nI (bf_n x))), (3, .int (nI (4 * 18 % (bf_n x))))]) hx hb dX1_sets_118 hl (by decide) rfl (fun ls hl => ?_)
      have hl := lv_sub (l' := [(0, .ref h0), (4, .long (bf_lg 0 0)), (6, .int 0)]) hl [2, 1, 0] rfl
      refine bf_while 521 (fun k H locs ls => va_P (dC, dI) vwCl [(h0, .inr (1, [.ref k0, .ref b0, .ref o0, .ref t0])), (k0, .inl (cB, 32, .inl K)), (t0, .inl (cI, 1042, .inl (bf_st (bf_T0 bf_PI K (bf_n x) 18) 0 0 0 k).1))] H ∧ va_D A [(h0, .inr (1, [.ref k0, .ref b0, .ref o0, .ref t0])), (k0, .inl (cB, 32, .inl K)), (t0, .inl (cI, 1042, .inl (bf_st (bf_T0 bf_PI K (bf_n x) 18) 0 0 0 k).1))] ∧ va_S A s.heap H locs ∧ lv_has ls 7 [(0, .ref h0), (4, .long (bf_lg (bf_st (bf_T0 bf_PI K (bf_n x) 18) 0 0 0 k).2.1 (bf_st (bf_T0 bf_PI K (bf_n x) 18) 0 0 0 k).2.2)), (6, .int (nI (2 * k)))]) (fun _ => 0) (fun _ => 0) 0 (Nat.zero_le _) ⟨hP, hD, hS, hl⟩ (fun H locs ls hI => ?_) (fun k hk kh H locs ls hI => ?_)
      · obtain ⟨hP, hD, hS, hl⟩ := hI
        refine lv_iload hx hb dX1_sets_120 (lv_at hl 2 rfl) ?_
        refine lv_sipush (v := 1042) hx hb dX1_sets_122 (by decide) ?_
        refine lv_icmp_ge (tgt := 175) hx hb dX1_sets_125 (by decide) (fun _ => ?_) (fun h9 => absurd (nI_le (a := 1042) (b := 2 * 521) (Nat.le_of_ble_eq_true rfl) (Nat.le_of_ble_eq_true rfl)) h9)
        exact W.vret hx hb hr (fun t ht hW => ⟨⟨(), rfl, trivial, by rw [ht]; exact hP, hD⟩, hS.F ht⟩) hS.2.2 dX1_sets_175
      · obtain ⟨hP, hD, hS, hl⟩ := hI
        generalize hTn : (bf_st (bf_T0 bf_PI K (bf_n x) 18) 0 0 0 k).1 = Tn at hP hD
        generalize hxn : (bf_st (bf_T0 bf_PI K (bf_n x) 18) 0 0 0 k).2.1 = xn at hl
        generalize hyn : (bf_st (bf_T0 bf_PI K (bf_n x) 18) 0 0 0 k).2.2 = yn at hl
        refine lv_iload hx hb dX1_sets_120 (lv_at hl 2 rfl) ?_
        refine lv_sipush (v := 1042) hx hb dX1_sets_122 (by decide) ?_
        refine lv_icmp_ge (tgt := 175) hx hb dX1_sets_125 (by decide) (fun h9 => absurd h9 (nI_ge (a := 2 * k) (b := 1042) (by omega) (Nat.le_of_ble_eq_true rfl))) (fun _ => ?_)
        refine lv_aload_n hx hb dX1_sets_128 rfl (lv_at hl 0 rfl) ?_
        refine lv_lload hx hb dX1_sets_129 (lv_at hl 1 rfl) ?_
        refine lv_bipush (v := 32) hx hb dX1_sets_131 (by decide) ?_
        refine lv_lushr hx hb dX1_sets_133 rfl ?_
        refine lv_l2i (v := xn) hx hb dX1_sets_134 (bf_lg_hi xn yn) ?_
        refine lv_lload hx hb dX1_sets_135 (lv_at hl 1 rfl) ?_
        refine lv_l2i (v := yn) hx hb dX1_sets_137 (bf_lg_lo xn yn) ?_
        refine lv_iconst (v := 1) hx hb dX1_sets_138 (by decide) ?_
        refine bf_calll (va_Run.run (va_runV (As := [.int xn, .int yn, .int 1]) (rest := []) ⟨hx, hb, hml, hown, hts⟩ (met_X1_runs_2_1 l dC dI cB cI h0 k0 b0 o0 t0 Tn xn yn) (cwV 3 hts (lw_V q357 q359 qs11 q15 q360) rfl rfl rfl (by decide +kernel) ⟨Nat.le_of_ble_eq_true rfl, Nat.le_of_ble_eq_true rfl⟩) (bf_rdV hK hP [0, 2] rfl (ci := 1) (q0 := 0) rfl rfl) rfl rfl hl.1 rfl (lv_room (Nat.le_of_ble_eq_true rfl)) dX1_sets_139 ⟨Nat.le_of_ble_eq_true rfl, Nat.le_of_ble_eq_true rfl⟩)) ?_
        refine lv_lstore (lv' := [(4, .long (bf_lg (bf_cr Tn Tn xn yn).1 (bf_cr Tn Tn xn yn).2)), (0, .ref h0), (6, .int (nI (2 * k)))]) hx hb dX1_sets_142 hl (by decide) rfl (fun ls hl => ?_)
        refine lv_aload_n hx hb dX1_sets_144 rfl (lv_at hl 1 rfl) ?_
        refine va_get (D := (dC, dI)) (ci := 1) (v := .ref t0) (C := RX1) (T := TX1) (N := 4) hx hb hts in_X1 hown hK hP 0 rfl rfl 3 (by decide) (hts _ q322) (fun _ h9 => h9) rfl dX1_sets_145 ?_
        refine lv_iload hx hb dX1_sets_148 (lv_at hl 2 rfl) ?_
        refine lv_lload hx hb dX1_sets_150 (lv_at hl 0 rfl) ?_
        refine lv_bipush (v := 32) hx hb dX1_sets_152 (by decide) ?_
        refine lv_lushr hx hb dX1_sets_154 rfl ?_
        refine lv_l2i (v := (bf_cr Tn Tn xn yn).1) hx hb dX1_sets_155 (bf_lg_hi _ _) ?_
        refine bf_iast hx hb hK hP hD hS 2 1 rfl rfl dX1_sets_156 (2 * k) rfl (by omega) (Nat.le_of_ble_eq_true rfl) (fun H locs hP hD hS => ?_)
        have hP : va_P (dC, dI) vwCl [(h0, .inr (1, [.ref k0, .ref b0, .ref o0, .ref t0])), (k0, .inl (cB, 32, .inl K)), (t0, .inl (cI, 1042, .inl (upd Tn (2 * k) ((bf_cr Tn Tn xn yn).1))))] H := hP
        have hD : va_D A [(h0, .inr (1, [.ref k0, .ref b0, .ref o0, .ref t0])), (k0, .inl (cB, 32, .inl K)), (t0, .inl (cI, 1042, .inl (upd Tn (2 * k) ((bf_cr Tn Tn xn yn).1))))] := hD
        refine lv_aload_n hx hb dX1_sets_157 rfl (lv_at hl 1 rfl) ?_
        refine va_get (D := (dC, dI)) (ci := 1) (v := .ref t0) (C := RX1) (T := TX1) (N := 4) hx hb hts in_X1 hown hK hP 0 rfl rfl 3 (by decide) (hts _ q322) (fun _ h9 => h9) rfl dX1_sets_158 ?_
        refine lv_iload hx hb dX1_sets_161 (lv_at hl 2 rfl) ?_
        refine lv_iconst (v := 1) hx hb dX1_sets_163 (by decide) ?_
        refine lv_iadd hx hb dX1_sets_164 ?_
        -- the second word
        refine lv_lload hx hb dX1_sets_165 (lv_at hl 0 rfl) ?_
        refine lv_l2i (v := (bf_cr Tn Tn xn yn).2) hx hb dX1_sets_167 (bf_lg_lo _ _) ?_
        refine bf_iast hx hb hK hP hD hS 2 1 rfl rfl dX1_sets_168 (2 * k + 1) (nI_add (2 * k) 1) (by omega) (Nat.le_of_ble_eq_true rfl) (fun H locs hP hD hS => ?_)
        have hP : va_P (dC, dI) vwCl [(h0, .inr (1, [.ref k0, .ref b0, .ref o0, .ref t0])), (k0, .inl (cB, 32, .inl K)), (t0, .inl (cI, 1042, .inl (upd (upd Tn (2 * k) ((bf_cr Tn Tn xn yn).1)) (2 * k + 1) ((bf_cr Tn Tn xn yn).2))))] H := hP
        have hD : va_D A [(h0, .inr (1, [.ref k0, .ref b0, .ref o0, .ref t0])), (k0, .inl (cB, 32, .inl K)), (t0, .inl (cI, 1042, .inl (upd (upd Tn (2 * k) ((bf_cr Tn Tn xn yn).1)) (2 * k + 1) ((bf_cr Tn Tn xn yn).2))))] := hD
        refine lv_iinc (v := nI (2 * (k + 1))) (lv' := [(6, .int (nI (2 * (k + 1)))), (4, .long (bf_lg (bf_cr Tn Tn xn yn).1 (bf_cr Tn Tn xn yn).2)), (0, .ref h0)]) hx hb dX1_sets_169 hl (k := 2) rfl (by rw [show 2 * (k + 1) = 2 * k + 2 by omega]; exact nI_add (2 * k) 2) (by decide) rfl (fun ls hl => ?_)
        refine lv_goto (tgt := 120) hx hb dX1_sets_172 (by decide) ?_
        subst hTn; subst hxn; subst hyn
        have e0 : (bf_st (bf_T0 bf_PI K (bf_n x) 18) 0 0 0 (k + 1)).1 = upd (upd (bf_st (bf_T0 bf_PI K (bf_n x) 18) 0 0 0 k).1 (2 * k) (bf_cr (bf_st (bf_T0 bf_PI K (bf_n x) 18) 0 0 0 k).1 (bf_st (bf_T0 bf_PI K (bf_n x) 18) 0 0 0 k).1 (bf_st (bf_T0 bf_PI K (bf_n x) 18) 0 0 0 k).2.1 (bf_st (bf_T0 bf_PI K (bf_n x) 18) 0 0 0 k).2.2).1) (2 * k + 1) (bf_cr (bf_st (bf_T0 bf_PI K (bf_n x) 18) 0 0 0 k).1 (bf_st (bf_T0 bf_PI K (bf_n x) 18) 0 0 0 k).1 (bf_st (bf_T0 bf_PI K (bf_n x) 18) 0 0 0 k).2.1 (bf_st (bf_T0 bf_PI K (bf_n x) 18) 0 0 0 k).2.2).2 := by
          show upd (upd _ (0 + 2 * k) _) (0 + 2 * k + 1) _ = _
          rw [Nat.zero_add]
        rw [← e0] at hP hD
        exact kh H locs ls ⟨hP, hD, hS, lv_sub hl [2, 1, 0] rfl⟩
    · obtain ⟨hP, hD, hS, hl⟩ := hI
      refine lv_iload hx hb dX1_sets_47 (lv_at hl 3 rfl) ?_
      refine lv_bipush (v := 18) hx hb dX1_sets_49 (by decide) ?_
      refine lv_icmp_ge (tgt := 114) hx hb dX1_sets_51 (by decide) (fun h9 => absurd h9 (nI_ge (a := i) (b := 18) hi (Nat.le_of_ble_eq_true rfl))) (fun _ => ?_)
      refine lv_iconst (v := 0) hx hb dX1_sets_54 (by decide) ?_
      refine lv_istore (lv' := [(5, .int 0), (0, .ref h0), (2, .int (nI (bf_n x))), (3, .int (nI (4 * i % (bf_n x)))), (4, .int (nI i))]) hx hb dX1_sets_55 hl (by decide) rfl (fun ls hl => ?_)
      refine lv_iconst (v := 0) hx hb dX1_sets_57 (by decide) ?_
      refine lv_istore (lv' := [(6, .int 0), (5, .int 0), (0, .ref h0), (2, .int (nI (bf_n x))), (3, .int (nI (4 * i % (bf_n x)))), (4, .int (nI i))]) hx hb dX1_sets_58 hl (by decide) rfl (fun ls hl => ?_)
      have hl := lv_sub (l' := [(0, .ref h0), (2, .int (nI (bf_n x))), (3, .int (nI (4 * i % (bf_n x)))), (4, .int (nI i)), (5, .int 0), (6, .int 0)]) hl [2, 3, 4, 5, 1, 0] rfl
      refine bf_while 4 (fun j H locs ls => va_P (dC, dI) vwCl [(h0, .inr (1, [.ref k0, .ref b0, .ref o0, .ref t0])), (k0, .inl (cB, 32, .inl K)), (t0, .inl (cI, 1042, .inl (bf_T0 bf_PI K (bf_n x) i)))] H ∧ va_D A [(h0, .inr (1, [.ref k0, .ref b0, .ref o0, .ref t0])), (k0, .inl (cB, 32, .inl K)), (t0, .inl (cI, 1042, .inl (bf_T0 bf_PI K (bf_n x) i)))] ∧ va_S A s.heap H locs ∧ lv_has ls 7 [(0, .ref h0), (2, .int (nI (bf_n x))), (3, .int (nI ((4 * i + j) % (bf_n x)))), (4, .int (nI i)), (5, .int (bf_kw K (bf_n x) i (j))), (6, .int (nI (j)))]) (fun _ => 0) (fun _ => 0) 0 (Nat.zero_le _) ⟨hP, hD, hS, hl⟩ (fun H locs ls hI => ?_) (fun j hj jh H locs ls hI => ?_)
      · obtain ⟨hP, hD, hS, hl⟩ := hI
        refine lv_iload hx hb dX1_sets_60 (lv_at hl 5 rfl) ?_
        refine lv_iconst (v := 4) hx hb dX1_sets_62 (by decide) ?_
        refine lv_icmp_ge (tgt := 96) hx hb dX1_sets_63 (by decide) (fun _ => ?_) (fun h9 => absurd (nI_le (a := 4) (b := 4) (Nat.le_of_ble_eq_true rfl) (Nat.le_of_ble_eq_true rfl)) h9)
        refine lv_aload_n hx hb dX1_sets_96 rfl (lv_at hl 0 rfl) ?_
        refine va_get (D := (dC, dI)) (ci := 1) (v := .ref t0) (C := RX1) (T := TX1) (N := 4) hx hb hts in_X1 hown hK hP 0 rfl rfl 3 (by decide) (hts _ q322) (fun _ h9 => h9) rfl dX1_sets_97 ?_
        refine lv_iload hx hb dX1_sets_100 (lv_at hl 3 rfl) ?_
        refine lv_dup2_11 hx hb dX1_sets_102 rfl rfl ?_
        refine bf_iald hx hb hK hP 2 1 rfl rfl dX1_sets_103 i rfl (by omega) (Nat.le_of_ble_eq_true rfl) ?_
        refine lv_iload hx hb dX1_sets_104 (lv_at hl 4 rfl) ?_
        refine lv_ixor hx hb dX1_sets_106 ?_
        refine bf_iast hx hb hK hP hD hS 2 1 rfl rfl dX1_sets_107 i rfl (by omega) (Nat.le_of_ble_eq_true rfl) (fun H locs hP hD hS => ?_)
        have hP : va_P (dC, dI) vwCl [(h0, .inr (1, [.ref k0, .ref b0, .ref o0, .ref t0])), (k0, .inl (cB, 32, .inl K)), (t0, .inl (cI, 1042, .inl (upd (bf_T0 bf_PI K (bf_n x) i) i (((bf_T0 bf_PI K (bf_n x) i) i) ^^^ (bf_kw K (bf_n x) i (4))))))] H := hP
        have hD : va_D A [(h0, .inr (1, [.ref k0, .ref b0, .ref o0, .ref t0])), (k0, .inl (cB, 32, .inl K)), (t0, .inl (cI, 1042, .inl (upd (bf_T0 bf_PI K (bf_n x) i) i (((bf_T0 bf_PI K (bf_n x) i) i) ^^^ (bf_kw K (bf_n x) i (4))))))] := hD
        rw [bf_T0_s] at hP hD
        refine lv_iinc (v := nI (i + 1)) (lv' := [(4, .int (nI (i + 1))), (0, .ref h0), (2, .int (nI (bf_n x))), (3, .int (nI ((4 * i + 4) % (bf_n x)))), (5, .int (bf_kw K (bf_n x) i (4))), (6, .int (nI (4)))]) hx hb dX1_sets_108 hl (k := 3) rfl (nI_add i 1) (by decide) rfl (fun ls hl => ?_)
        refine lv_goto (tgt := 47) hx hb dX1_sets_111 (by decide) ?_
        rw [show 4 * i + 4 = 4 * (i + 1) by omega] at hl
        exact ih H locs ls ⟨hP, hD, hS, lv_sub hl [1, 2, 3, 0] rfl⟩
      · obtain ⟨hP, hD, hS, hl⟩ := hI
        refine lv_iload hx hb dX1_sets_60 (lv_at hl 5 rfl) ?_
        refine lv_iconst (v := 4) hx hb dX1_sets_62 (by decide) ?_
        refine lv_icmp_ge (tgt := 96) hx hb dX1_sets_63 (by decide) (fun h9 => absurd h9 (nI_ge (a := j) (b := 4) hj (Nat.le_of_ble_eq_true rfl))) (fun _ => ?_)
        have hm : (4 * i + j) % (bf_n x) < (bf_n x) := Nat.mod_lt _ (by omega)
        refine lv_iload hx hb dX1_sets_66 (lv_at hl 4 rfl) ?_
        refine lv_bipush (v := 8) hx hb dX1_sets_68 (by decide) ?_
        refine lv_ishl hx hb dX1_sets_70 ?_
        refine lv_aload_n hx hb dX1_sets_71 rfl (lv_at hl 0 rfl) ?_
        refine va_get (D := (dC, dI)) (ci := 1) (v := .ref k0) (C := RX1) (T := TX1) (N := 4) hx hb hts in_X1 hown hK hP 0 rfl rfl 0 (by decide) (hts _ q319) (fun _ h9 => h9) rfl dX1_sets_72 ?_
        refine lv_iload_n hx hb dX1_sets_75 rfl (lv_at hl 2 rfl) ?_
        refine bf_bald hx hb hK hP 1 0 rfl rfl dX1_sets_76 ((4 * i + j) % (bf_n x)) rfl (by omega) (Nat.le_of_ble_eq_true rfl) ?_
        refine lv_sipush (v := 255) hx hb dX1_sets_77 (by decide) ?_
        refine lv_iand hx hb dX1_sets_80 ?_
        refine lv_ior hx hb dX1_sets_81 ?_
        refine bf_topE (y := bf_kw K (bf_n x) i (j + 1)) rfl ?_
        refine lv_istore (lv' := [(5, .int (bf_kw K (bf_n x) i (j + 1))), (0, .ref h0), (2, .int (nI (bf_n x))), (3, .int (nI ((4 * i + j) % (bf_n x)))), (4, .int (nI i)), (6, .int (nI (j)))]) hx hb dX1_sets_82 hl (by decide) rfl (fun ls hl => ?_)
        refine lv_iload_n hx hb dX1_sets_84 rfl (lv_at hl 3 rfl) ?_
        refine lv_iconst (v := 1) hx hb dX1_sets_85 (by decide) ?_
        refine lv_iadd hx hb dX1_sets_86 ?_
        refine bf_topE (y := nI ((4 * i + j) % (bf_n x) + 1)) (nI_add _ 1) ?_
        refine lv_iload_n hx hb dX1_sets_87 rfl (lv_at hl 2 rfl) ?_
        refine lv_irem hx hb dX1_sets_88 (nI_ne0 (by omega) (by omega)) ?_
        refine bf_topE (y := nI ((4 * i + (j + 1)) % (bf_n x))) (by rw [pk_rem (by omega) (by omega) (by omega), Nat.mod_add_mod]; rfl) ?_
        refine lv_istore_n (lv' := [(3, .int (nI ((4 * i + (j + 1)) % (bf_n x)))), (5, .int (bf_kw K (bf_n x) i (j + 1))), (0, .ref h0), (2, .int (nI (bf_n x))), (4, .int (nI i)), (6, .int (nI (j)))]) hx hb dX1_sets_89 rfl hl (by decide) rfl (fun ls hl => ?_)
        refine lv_iinc (v := nI (j + 1)) (lv' := [(6, .int (nI (j + 1))), (3, .int (nI ((4 * i + (j + 1)) % (bf_n x)))), (5, .int (bf_kw K (bf_n x) i (j + 1))), (0, .ref h0), (2, .int (nI (bf_n x))), (4, .int (nI i))]) hx hb dX1_sets_90 hl (k := 5) rfl (nI_add j 1) (by decide) rfl (fun ls hl => ?_)
        refine lv_goto (tgt := 60) hx hb dX1_sets_93 (by decide) ?_
        exact jh H locs ls ⟨hP, hD, hS, lv_sub hl [3, 4, 1, 5, 2, 0] rfl⟩
  · obtain ⟨hP, hD, hS, hl⟩ := hI
    refine lv_iload hx hb dX1_sets_17 (lv_at hl 3 rfl) ?_
    refine lv_sipush (v := 1042) hx hb dX1_sets_19 (by decide) ?_
    refine lv_icmp_ge (tgt := 44) hx hb dX1_sets_22 (by decide) (fun h9 => absurd h9 (nI_ge (a := i) (b := 1042) hi (Nat.le_of_ble_eq_true rfl))) (fun _ => ?_)
    refine lv_aload_n hx hb dX1_sets_25 rfl (lv_at hl 0 rfl) ?_
    refine va_get (D := (dC, dI)) (ci := 1) (v := .ref t0) (C := RX1) (T := TX1) (N := 4) hx hb hts in_X1 hown hK hP 0 rfl rfl 3 (by decide) (hts _ q322) (fun _ h9 => h9) rfl dX1_sets_26 ?_
    refine lv_iload hx hb dX1_sets_29 (lv_at hl 3 rfl) ?_
    refine va_gets hx hb hX5.1 hS hown (hts _ q355) (fun _ h9 => h9) dX1_sets_31 ?_
    refine lv_iload hx hb dX1_sets_34 (lv_at hl 3 rfl) ?_
    refine va_ti hx hb hX5.2 hS (vp_in_nI hi (Nat.le_of_ble_eq_true rfl)) (v := .int (bf_PI i)) (by rw [nI_clamp (by omega)]) dX1_sets_36 ?_
    refine bf_iast hx hb hK hP hD hS 2 1 rfl rfl dX1_sets_37 i rfl hi (Nat.le_of_ble_eq_true rfl) (fun H locs hP hD hS => ?_)
    have hP : va_P (dC, dI) vwCl [(h0, .inr (1, [.ref k0, .ref b0, .ref o0, .ref t0])), (k0, .inl (cB, 32, .inl K)), (t0, .inl (cI, 1042, .inl (upd (bf_cq T bf_PI i) i (bf_PI i))))] H := hP
    have hD : va_D A [(h0, .inr (1, [.ref k0, .ref b0, .ref o0, .ref t0])), (k0, .inl (cB, 32, .inl K)), (t0, .inl (cI, 1042, .inl (upd (bf_cq T bf_PI i) i (bf_PI i))))] := hD
    rw [bf_cq_s] at hP hD
    refine lv_iinc (v := nI (i + 1)) (lv' := [(4, .int (nI (i + 1))), (0, .ref h0), (2, .int (nI (bf_n x))), (3, .int 0)]) hx hb dX1_sets_38 hl (k := 3) rfl (nI_add i 1) (by decide) rfl (fun ls hl => ?_)
    refine lv_goto (tgt := 17) hx hb dX1_sets_41 (by decide) ?_
    exact ih H locs ls ⟨hP, hD, hS, lv_sub hl [1, 2, 3, 0] rfl⟩
set_option maxHeartbeats 4000000 in
set_option maxRecDepth 100000 in
/-- runs(kind, true) -/
theorem met_X1_runs_1 (l : Launch) (dC : Nat → ClassId) (dI : Nat → Nat → Nat) (cB cI : ClassId) (tS : Nat → Nat) (sz : Nat) (h0 k0 b0 o0 t0 : Nat) (K B O T : Nat → Int32) (x : Int32) : Met l yX1_runs (ws_ yX1_runs cX1_runs 5 none) ({ frames := 3, cells := 0, slots := 0, locals := 75 }) (va_Pc [.ref h0, .int x, .int 1] (bfPreX (dC, dI) cB cI tS [(h0, .inr (1, [.ref k0, .ref b0, .ref o0, .ref t0])), (k0, .inl (cB, 32, .inl K)), (b0, .inl (cB, 8, .inl B)), (o0, .inl (cB, 8, .inl O)), (t0, .inl (cI, 1042, .inl T))] sz)) (va_Qv (fun _ : Unit => True) (fun _ t => bfPost (dC, dI) [(h0, .inr (1, [.ref k0, .ref b0, .ref o0, .ref t0])), (k0, .inl (cB, 32, .inl K)), (b0, .inl (cB, 8, .inl B)), (o0, .inl (cB, 8, .inl (bf_out bf_PI K B O (bf_n x) true))), (t0, .inl (cI, 1042, .inl (bf_sch bf_PI K (bf_n x))))] (va_A [(h0, .inr (1, [.ref k0, .ref b0, .ref o0, .ref t0])), (k0, .inl (cB, 32, .inl K)), (b0, .inl (cB, 8, .inl B)), (o0, .inl (cB, 8, .inl O)), (t0, .inl (cI, 1042, .inl T))] sz) t) (va_A [(h0, .inr (1, [.ref k0, .ref b0, .ref o0, .ref t0])), (k0, .inl (cB, 32, .inl K)), (b0, .inl (cB, 8, .inl B)), (o0, .inl (cB, 8, .inl O)), (t0, .inl (cI, 1042, .inl T))] sz)) 0 0 (va_A [(h0, .inr (1, [.ref k0, .ref b0, .ref o0, .ref t0])), (k0, .inl (cB, 32, .inl K)), (b0, .inl (cB, 8, .inl B)), (o0, .inl (cB, 8, .inl O)), (t0, .inl (cI, 1042, .inl T))] sz) := by
  refine Met.ofW (cc := cX1_runs) (maxL := 5) (ret := none) (by decide) rfl ?_
  intro p e s m args below meth c s₁ hBo hml hv
  obtain ⟨rfl, ⟨hsz, hP, hK, hD0⟩, hX⟩ := hv
  have hx := hBo.exec
  have hb := hBo.bytes
  have hr := hBo.returns
  have hts := atoms_spec (ws := (ws_ yX1_runs cX1_runs 5 none)) hBo.pre
  have hts : ∀ w ∈ lw_all, w.before _ s = true := fun w h => hts w (List.mem_cons_of_mem _ h)
  have hown : s.vm.findClass RX1 = some m.cls := findClass_of_methodNamed hBo.named
  have hlocks := hBo.notSynchronized
  subst hsz
  have hD := hD0.self (sz := s.heap.size)
  generalize hAe : va_A [(h0, .inr (1, [.ref k0, .ref b0, .ref o0, .ref t0])), (k0, .inl (cB, 32, .inl K)), (b0, .inl (cB, 8, .inl B)), (o0, .inl (cB, 8, .inl O)), (t0, .inl (cI, 1042, .inl T))] s.heap.size = A at hD ⊢ hX
  have hA : ∀ q : Nat, s.heap.size ≤ q → A q := fun q h => by rw [← hAe]; exact Or.inr h
  have hS : va_S A s.heap s.heap [] := va_S.rf
  have hl := lv_entry ([.ref h0, .int x, .int 1]) (n := 5) (Nat.le_of_ble_eq_true rfl)
  rw [lg_entry_eq]
  generalize (lg_sl ([.ref h0, .int x, .int 1]) ++ List.replicate (5 - (lg_sl ([.ref h0, .int x, .int 1])).length) Slot.unset).toArray = ls at hl ⊢
  have hl : lv_has ls 5 [(0, .ref h0), (1, .int x), (2, .int 1)] := hl
  refine lv_aload_n hx hb dX1_runs_0 rfl (lv_at hl 0 rfl) ?_
  refine lv_iload_n hx hb dX1_runs_1 rfl (lv_at hl 1 rfl) ?_
  refine bf_callv (wr := [(b0, .inl (cB, 8, .inl B)), (o0, .inl (cB, 8, .inl O))]) (va_runV (As := [.int x]) (rest := []) ⟨hx, hb, hml, hown, hts⟩ (met_X1_sets l dC dI cB cI tS s.heap.size h0 k0 b0 o0 t0 K T x) (cwV 1 hts (lw_V q351 q353 qs10 q15 q354) rfl rfl rfl (by decide +kernel) ⟨Nat.le_of_ble_eq_true rfl, Nat.le_of_ble_eq_true rfl⟩) (bf_preVX hK hP hD [0, 1, 4] (by decide) rfl (ci := 1) (q0 := 0) rfl rfl hX hS hA) rfl rfl hl.1 rfl (lv_room (Nat.le_of_ble_eq_true rfl)) dX1_runs_2 ⟨Nat.le_of_ble_eq_true rfl, Nat.le_of_ble_eq_true rfl⟩) hP hD hS hA [0, 1, 4] [2, 3] rfl rfl (by decide) (by decide) (fun _ H locs hP hD hS => ?_)
  have hP : va_P (dC, dI) vwCl [(b0, .inl (cB, 8, .inl B)), (o0, .inl (cB, 8, .inl O)), (h0, .inr (1, [.ref k0, .ref b0, .ref o0, .ref t0])), (k0, .inl (cB, 32, .inl K)), (t0, .inl (cI, 1042, .inl (bf_sch bf_PI K (bf_n x))))] H := hP
  have hD : va_D A [(b0, .inl (cB, 8, .inl B)), (o0, .inl (cB, 8, .inl O)), (h0, .inr (1, [.ref k0, .ref b0, .ref o0, .ref t0])), (k0, .inl (cB, 32, .inl K)), (t0, .inl (cI, 1042, .inl (bf_sch bf_PI K (bf_n x))))] := hD
  refine lv_aload_n hx hb dX1_runs_5 rfl (lv_at hl 0 rfl) ?_
  refine lv_aload_n hx hb dX1_runs_6 rfl (lv_at hl 0 rfl) ?_
  refine va_get (D := (dC, dI)) (ci := 1) (v := .ref b0) (C := RX1) (T := TX1) (N := 4) hx hb hts in_X1 hown hK hP 2 rfl rfl 1 (by decide) (hts _ q320) (fun _ h9 => h9) rfl dX1_runs_7 ?_
  refine lv_iconst (v := 0) hx hb dX1_runs_10 (by decide) ?_
  refine bf_calli (va_Run.run (va_runS (As := [.ref b0, .int (nI 0)]) (rest := [.ref h0]) ⟨hx, hb, hml, hown, hts⟩ (met_X1_word l dC dI cB cI b0 8 0 B (Nat.le_of_ble_eq_true rfl) (Nat.le_of_ble_eq_true rfl)) (va_cwS 2 hts (lw_S q366 q367 q15 q368) rfl rfl rfl (by decide +kernel) ⟨Nat.le_of_ble_eq_true rfl, Nat.le_of_ble_eq_true rfl⟩) (bf_rdS hK hP [0] rfl) rfl rfl hl.1 rfl (lv_room (Nat.le_of_ble_eq_true rfl)) dX1_runs_11 ⟨Nat.le_of_ble_eq_true rfl, Nat.le_of_ble_eq_true rfl⟩)) ?_
  refine lv_aload_n hx hb dX1_runs_14 rfl (lv_at hl 0 rfl) ?_
  refine va_get (D := (dC, dI)) (ci := 1) (v := .ref b0) (C := RX1) (T := TX1) (N := 4) hx hb hts in_X1 hown hK hP 2 rfl rfl 1 (by decide) (hts _ q320) (fun _ h9 => h9) rfl dX1_runs_15 ?_
  refine lv_iconst (v := 4) hx hb dX1_runs_18 (by decide) ?_
  refine bf_calli (va_Run.run (va_runS (As := [.ref b0, .int (nI 4)]) (rest := [.int (bf_wd B 0 4), .ref h0]) ⟨hx, hb, hml, hown, hts⟩ (met_X1_word l dC dI cB cI b0 8 4 B (Nat.le_of_ble_eq_true rfl) (Nat.le_of_ble_eq_true rfl)) (va_cwS 2 hts (lw_S q366 q367 q15 q368) rfl rfl rfl (by decide +kernel) ⟨Nat.le_of_ble_eq_true rfl, Nat.le_of_ble_eq_true rfl⟩) (bf_rdS hK hP [0] rfl) rfl rfl hl.1 rfl (lv_room (Nat.le_of_ble_eq_true rfl)) dX1_runs_19 ⟨Nat.le_of_ble_eq_true rfl, Nat.le_of_ble_eq_true rfl⟩)) ?_
  refine lv_iload_n hx hb dX1_runs_22 rfl (lv_at hl 2 rfl) ?_
  refine bf_calll (va_Run.run (va_runV (As := [.int (bf_wd B 0 4), .int (bf_wd B 4 4), .int 1]) (rest := []) ⟨hx, hb, hml, hown, hts⟩ (met_X1_runs_2_1 l dC dI cB cI h0 k0 b0 o0 t0 (bf_sch bf_PI K (bf_n x)) (bf_wd B 0 4) (bf_wd B 4 4)) (cwV 3 hts (lw_V q357 q359 qs11 q15 q360) rfl rfl rfl (by decide +kernel) ⟨Nat.le_of_ble_eq_true rfl, Nat.le_of_ble_eq_true rfl⟩) (bf_rdV hK hP [2, 4] rfl (ci := 1) (q0 := 2) rfl rfl) rfl rfl hl.1 rfl (lv_room (Nat.le_of_ble_eq_true rfl)) dX1_runs_23 ⟨Nat.le_of_ble_eq_true rfl, Nat.le_of_ble_eq_true rfl⟩)) ?_
  refine lv_lstore_n (lv' := [(3, .long (bf_lg (bf_cr (bf_sch bf_PI K (bf_n x)) (bf_sch bf_PI K (bf_n x)) (bf_wd B 0 4) (bf_wd B 4 4)).1 (bf_cr (bf_sch bf_PI K (bf_n x)) (bf_sch bf_PI K (bf_n x)) (bf_wd B 0 4) (bf_wd B 4 4)).2)), (0, .ref h0), (1, .int x), (2, .int 1)]) hx hb dX1_runs_26 rfl hl (by decide) rfl (fun ls hl => ?_)
  refine lv_aload_n hx hb dX1_runs_27 rfl (lv_at hl 1 rfl) ?_
  refine va_get (D := (dC, dI)) (ci := 1) (v := .ref o0) (C := RX1) (T := TX1) (N := 4) hx hb hts in_X1 hown hK hP 2 rfl rfl 2 (by decide) (hts _ q321) (fun _ h9 => h9) rfl dX1_runs_28 ?_
  refine lv_iconst (v := 0) hx hb dX1_runs_31 (by decide) ?_
  refine lv_lload_n hx hb dX1_runs_32 rfl (lv_at hl 0 rfl) ?_
  refine lv_bipush (v := 32) hx hb dX1_runs_33 (by decide) ?_
  refine lv_lushr hx hb dX1_runs_35 rfl ?_
  refine lv_l2i (v := (bf_cr (bf_sch bf_PI K (bf_n x)) (bf_sch bf_PI K (bf_n x)) (bf_wd B 0 4) (bf_wd B 4 4)).1) hx hb dX1_runs_36 (bf_lg_hi _ _) ?_
  refine bf_callv (wr := [(b0, .inl (cB, 8, .inl B)), (h0, .inr (1, [.ref k0, .ref b0, .ref o0, .ref t0])), (k0, .inl (cB, 32, .inl K)), (t0, .inl (cI, 1042, .inl (bf_sch bf_PI K (bf_n x))))]) (va_runS (As := [.ref o0, .int (nI 0), .int ((bf_cr (bf_sch bf_PI K (bf_n x)) (bf_sch bf_PI K (bf_n x)) (bf_wd B 0 4) (bf_wd B 4 4)).1)]) (rest := []) ⟨hx, hb, hml, hown, hts⟩ (met_X1_put l dC dI cB cI H.size o0 8 0 (bf_cr (bf_sch bf_PI K (bf_n x)) (bf_sch bf_PI K (bf_n x)) (bf_wd B 0 4) (bf_wd B 4 4)).1 O (Nat.le_of_ble_eq_true rfl) (Nat.le_of_ble_eq_true rfl)) (va_cwS 3 hts (lw_S q336 q337 q15 q338) rfl rfl rfl (by decide +kernel) ⟨Nat.le_of_ble_eq_true rfl, Nat.le_of_ble_eq_true rfl⟩) (bf_preS hK hP hD [1] (by decide) rfl) rfl rfl hl.1 rfl (lv_room (Nat.le_of_ble_eq_true rfl)) dX1_runs_37 ⟨Nat.le_of_ble_eq_true rfl, Nat.le_of_ble_eq_true rfl⟩) hP hD hS hA [1] [0, 2, 3, 4] rfl rfl (by decide) (by decide) (fun _ H locs hP hD hS => ?_)
  have hP : va_P (dC, dI) vwCl [(b0, .inl (cB, 8, .inl B)), (h0, .inr (1, [.ref k0, .ref b0, .ref o0, .ref t0])), (k0, .inl (cB, 32, .inl K)), (t0, .inl (cI, 1042, .inl (bf_sch bf_PI K (bf_n x)))), (o0, .inl (cB, 8, .inl (bf_put O 0 (bf_cr (bf_sch bf_PI K (bf_n x)) (bf_sch bf_PI K (bf_n x)) (bf_wd B 0 4) (bf_wd B 4 4)).1)))] H := hP
  have hD : va_D A [(b0, .inl (cB, 8, .inl B)), (h0, .inr (1, [.ref k0, .ref b0, .ref o0, .ref t0])), (k0, .inl (cB, 32, .inl K)), (t0, .inl (cI, 1042, .inl (bf_sch bf_PI K (bf_n x)))), (o0, .inl (cB, 8, .inl (bf_put O 0 (bf_cr (bf_sch bf_PI K (bf_n x)) (bf_sch bf_PI K (bf_n x)) (bf_wd B 0 4) (bf_wd B 4 4)).1)))] := hD
  refine lv_aload_n hx hb dX1_runs_40 rfl (lv_at hl 1 rfl) ?_
  refine va_get (D := (dC, dI)) (ci := 1) (v := .ref o0) (C := RX1) (T := TX1) (N := 4) hx hb hts in_X1 hown hK hP 1 rfl rfl 2 (by decide) (hts _ q321) (fun _ h9 => h9) rfl dX1_runs_41 ?_
  refine lv_iconst (v := 4) hx hb dX1_runs_44 (by decide) ?_
  refine lv_lload_n hx hb dX1_runs_45 rfl (lv_at hl 0 rfl) ?_
  refine lv_l2i (v := (bf_cr (bf_sch bf_PI K (bf_n x)) (bf_sch bf_PI K (bf_n x)) (bf_wd B 0 4) (bf_wd B 4 4)).2) hx hb dX1_runs_46 (bf_lg_lo _ _) ?_
  refine bf_callv (wr := [(b0, .inl (cB, 8, .inl B)), (h0, .inr (1, [.ref k0, .ref b0, .ref o0, .ref t0])), (k0, .inl (cB, 32, .inl K)), (t0, .inl (cI, 1042, .inl (bf_sch bf_PI K (bf_n x))))]) (va_runS (As := [.ref o0, .int (nI 4), .int ((bf_cr (bf_sch bf_PI K (bf_n x)) (bf_sch bf_PI K (bf_n x)) (bf_wd B 0 4) (bf_wd B 4 4)).2)]) (rest := []) ⟨hx, hb, hml, hown, hts⟩ (met_X1_put l dC dI cB cI H.size o0 8 4 (bf_cr (bf_sch bf_PI K (bf_n x)) (bf_sch bf_PI K (bf_n x)) (bf_wd B 0 4) (bf_wd B 4 4)).2 (bf_put O 0 (bf_cr (bf_sch bf_PI K (bf_n x)) (bf_sch bf_PI K (bf_n x)) (bf_wd B 0 4) (bf_wd B 4 4)).1) (Nat.le_of_ble_eq_true rfl) (Nat.le_of_ble_eq_true rfl)) (va_cwS 3 hts (lw_S q336 q337 q15 q338) rfl rfl rfl (by decide +kernel) ⟨Nat.le_of_ble_eq_true rfl, Nat.le_of_ble_eq_true rfl⟩) (bf_preS hK hP hD [4] (by decide) rfl) rfl rfl hl.1 rfl (lv_room (Nat.le_of_ble_eq_true rfl)) dX1_runs_47 ⟨Nat.le_of_ble_eq_true rfl, Nat.le_of_ble_eq_true rfl⟩) hP hD hS hA [4] [0, 1, 2, 3] rfl rfl (by decide) (by decide) (fun _ H locs hP hD hS => ?_)
  have hP : va_P (dC, dI) vwCl [(b0, .inl (cB, 8, .inl B)), (h0, .inr (1, [.ref k0, .ref b0, .ref o0, .ref t0])), (k0, .inl (cB, 32, .inl K)), (t0, .inl (cI, 1042, .inl (bf_sch bf_PI K (bf_n x)))), (o0, .inl (cB, 8, .inl (bf_put (bf_put O 0 (bf_cr (bf_sch bf_PI K (bf_n x)) (bf_sch bf_PI K (bf_n x)) (bf_wd B 0 4) (bf_wd B 4 4)).1) 4 (bf_cr (bf_sch bf_PI K (bf_n x)) (bf_sch bf_PI K (bf_n x)) (bf_wd B 0 4) (bf_wd B 4 4)).2)))] H := hP
  have hD : va_D A [(b0, .inl (cB, 8, .inl B)), (h0, .inr (1, [.ref k0, .ref b0, .ref o0, .ref t0])), (k0, .inl (cB, 32, .inl K)), (t0, .inl (cI, 1042, .inl (bf_sch bf_PI K (bf_n x)))), (o0, .inl (cB, 8, .inl (bf_put (bf_put O 0 (bf_cr (bf_sch bf_PI K (bf_n x)) (bf_sch bf_PI K (bf_n x)) (bf_wd B 0 4) (bf_wd B 4 4)).1) 4 (bf_cr (bf_sch bf_PI K (bf_n x)) (bf_sch bf_PI K (bf_n x)) (bf_wd B 0 4) (bf_wd B 4 4)).2)))] := hD
  rw [bf_out_1] at hP hD
  have hP := hP.sub (ws' := [(h0, .inr (1, [.ref k0, .ref b0, .ref o0, .ref t0])), (k0, .inl (cB, 32, .inl K)), (b0, .inl (cB, 8, .inl B)), (o0, .inl (cB, 8, .inl (bf_out bf_PI K B O (bf_n x) true))), (t0, .inl (cI, 1042, .inl (bf_sch bf_PI K (bf_n x))))]) [1, 2, 0, 4, 3] rfl
  have hD := hD.sub (ws' := [(h0, .inr (1, [.ref k0, .ref b0, .ref o0, .ref t0])), (k0, .inl (cB, 32, .inl K)), (b0, .inl (cB, 8, .inl B)), (o0, .inl (cB, 8, .inl (bf_out bf_PI K B O (bf_n x) true))), (t0, .inl (cI, 1042, .inl (bf_sch bf_PI K (bf_n x))))]) [1, 2, 0, 4, 3] (by decide) rfl
  exact W.vret hx hb hr (fun t ht hW => ⟨⟨(), rfl, trivial, by rw [ht]; exact hP, hD⟩, hS.F ht⟩) hS.2.2 dX1_runs_50
set_option maxHeartbeats 4000000 in
set_option maxRecDepth 100000 in
/-- runs(kind, false) -/
theorem met_X1_runs_0 (l : Launch) (dC : Nat → ClassId) (dI : Nat → Nat → Nat) (cB cI : ClassId) (tS : Nat → Nat) (sz : Nat) (h0 k0 b0 o0 t0 : Nat) (K B O T : Nat → Int32) (x : Int32) : Met l yX1_runs (ws_ yX1_runs cX1_runs 5 none) ({ frames := 3, cells := 0, slots := 0, locals := 75 }) (va_Pc [.ref h0, .int x, .int 0] (bfPreX (dC, dI) cB cI tS [(h0, .inr (1, [.ref k0, .ref b0, .ref o0, .ref t0])), (k0, .inl (cB, 32, .inl K)), (b0, .inl (cB, 8, .inl B)), (o0, .inl (cB, 8, .inl O)), (t0, .inl (cI, 1042, .inl T))] sz)) (va_Qv (fun _ : Unit => True) (fun _ t => bfPost (dC, dI) [(h0, .inr (1, [.ref k0, .ref b0, .ref o0, .ref t0])), (k0, .inl (cB, 32, .inl K)), (b0, .inl (cB, 8, .inl B)), (o0, .inl (cB, 8, .inl (bf_out bf_PI K B O (bf_n x) false))), (t0, .inl (cI, 1042, .inl (bf_sch bf_PI K (bf_n x))))] (va_A [(h0, .inr (1, [.ref k0, .ref b0, .ref o0, .ref t0])), (k0, .inl (cB, 32, .inl K)), (b0, .inl (cB, 8, .inl B)), (o0, .inl (cB, 8, .inl O)), (t0, .inl (cI, 1042, .inl T))] sz) t) (va_A [(h0, .inr (1, [.ref k0, .ref b0, .ref o0, .ref t0])), (k0, .inl (cB, 32, .inl K)), (b0, .inl (cB, 8, .inl B)), (o0, .inl (cB, 8, .inl O)), (t0, .inl (cI, 1042, .inl T))] sz)) 0 0 (va_A [(h0, .inr (1, [.ref k0, .ref b0, .ref o0, .ref t0])), (k0, .inl (cB, 32, .inl K)), (b0, .inl (cB, 8, .inl B)), (o0, .inl (cB, 8, .inl O)), (t0, .inl (cI, 1042, .inl T))] sz) := by
  refine Met.ofW (cc := cX1_runs) (maxL := 5) (ret := none) (by decide) rfl ?_
  intro p e s m args below meth c s₁ hBo hml hv
  obtain ⟨rfl, ⟨hsz, hP, hK, hD0⟩, hX⟩ := hv
  have hx := hBo.exec
  have hb := hBo.bytes
  have hr := hBo.returns
  have hts := atoms_spec (ws := (ws_ yX1_runs cX1_runs 5 none)) hBo.pre
  have hts : ∀ w ∈ lw_all, w.before _ s = true := fun w h => hts w (List.mem_cons_of_mem _ h)
  have hown : s.vm.findClass RX1 = some m.cls := findClass_of_methodNamed hBo.named
  have hlocks := hBo.notSynchronized
  subst hsz
  have hD := hD0.self (sz := s.heap.size)
  generalize hAe : va_A [(h0, .inr (1, [.ref k0, .ref b0, .ref o0, .ref t0])), (k0, .inl (cB, 32, .inl K)), (b0, .inl (cB, 8, .inl B)), (o0, .inl (cB, 8, .inl O)), (t0, .inl (cI, 1042, .inl T))] s.heap.size = A at hD ⊢ hX
  have hA : ∀ q : Nat, s.heap.size ≤ q → A q := fun q h => by rw [← hAe]; exact Or.inr h
  have hS : va_S A s.heap s.heap [] := va_S.rf
  have hl := lv_entry ([.ref h0, .int x, .int 0]) (n := 5) (Nat.le_of_ble_eq_true rfl)
  rw [lg_entry_eq]
  generalize (lg_sl ([.ref h0, .int x, .int 0]) ++ List.replicate (5 - (lg_sl ([.ref h0, .int x, .int 0])).length) Slot.unset).toArray = ls at hl ⊢
  have hl : lv_has ls 5 [(0, .ref h0), (1, .int x), (2, .int 0)] := hl
  refine lv_aload_n hx hb dX1_runs_0 rfl (lv_at hl 0 rfl) ?_
  refine lv_iload_n hx hb dX1_runs_1 rfl (lv_at hl 1 rfl) ?_
  refine bf_callv (wr := [(b0, .inl (cB, 8, .inl B)), (o0, .inl (cB, 8, .inl O))]) (va_runV (As := [.int x]) (rest := []) ⟨hx, hb, hml, hown, hts⟩ (met_X1_sets l dC dI cB cI tS s.heap.size h0 k0 b0 o0 t0 K T x) (cwV 1 hts (lw_V q351 q353 qs10 q15 q354) rfl rfl rfl (by decide +kernel) ⟨Nat.le_of_ble_eq_true rfl, Nat.le_of_ble_eq_true rfl⟩) (bf_preVX hK hP hD [0, 1, 4] (by decide) rfl (ci := 1) (q0 := 0) rfl rfl hX hS hA) rfl rfl hl.1 rfl (lv_room (Nat.le_of_ble_eq_true rfl)) dX1_runs_2 ⟨Nat.le_of_ble_eq_true rfl, Nat.le_of_ble_eq_true rfl⟩) hP hD hS hA [0, 1, 4] [2, 3] rfl rfl (by decide) (by decide) (fun _ H locs hP hD hS => ?_)
  have hP : va_P (dC, dI) vwCl [(b0, .inl (cB, 8, .inl B)), (o0, .inl (cB, 8, .inl O)), (h0, .inr (1, [.ref k0, .ref b0, .ref o0, .ref t0])), (k0, .inl (cB, 32, .inl K)), (t0, .inl (cI, 1042, .inl (bf_sch bf_PI K (bf_n x))))] H := hP
  have hD : va_D A [(b0, .inl (cB, 8, .inl B)), (o0, .inl (cB, 8, .inl O)), (h0, .inr (1, [.ref k0, .ref b0, .ref o0, .ref t0])), (k0, .inl (cB, 32, .inl K)), (t0, .inl (cI, 1042, .inl (bf_sch bf_PI K (bf_n x))))] := hD
  refine lv_aload_n hx hb dX1_runs_5 rfl (lv_at hl 0 rfl) ?_
  refine lv_aload_n hx hb dX1_runs_6 rfl (lv_at hl 0 rfl) ?_
  refine va_get (D := (dC, dI)) (ci := 1) (v := .ref b0) (C := RX1) (T := TX1) (N := 4) hx hb hts in_X1 hown hK hP 2 rfl rfl 1 (by decide) (hts _ q320) (fun _ h9 => h9) rfl dX1_runs_7 ?_
  refine lv_iconst (v := 0) hx hb dX1_runs_10 (by decide) ?_
  refine bf_calli (va_Run.run (va_runS (As := [.ref b0, .int (nI 0)]) (rest := [.ref h0]) ⟨hx, hb, hml, hown, hts⟩ (met_X1_word l dC dI cB cI b0 8 0 B (Nat.le_of_ble_eq_true rfl) (Nat.le_of_ble_eq_true rfl)) (va_cwS 2 hts (lw_S q366 q367 q15 q368) rfl rfl rfl (by decide +kernel) ⟨Nat.le_of_ble_eq_true rfl, Nat.le_of_ble_eq_true rfl⟩) (bf_rdS hK hP [0] rfl) rfl rfl hl.1 rfl (lv_room (Nat.le_of_ble_eq_true rfl)) dX1_runs_11 ⟨Nat.le_of_ble_eq_true rfl, Nat.le_of_ble_eq_true rfl⟩)) ?_
  refine lv_aload_n hx hb dX1_runs_14 rfl (lv_at hl 0 rfl) ?_
  refine va_get (D := (dC, dI)) (ci := 1) (v := .ref b0) (C := RX1) (T := TX1) (N := 4) hx hb hts in_X1 hown hK hP 2 rfl rfl 1 (by decide) (hts _ q320) (fun _ h9 => h9) rfl dX1_runs_15 ?_
  refine lv_iconst (v := 4) hx hb dX1_runs_18 (by decide) ?_
  refine bf_calli (va_Run.run (va_runS (As := [.ref b0, .int (nI 4)]) (rest := [.int (bf_wd B 0 4), .ref h0]) ⟨hx, hb, hml, hown, hts⟩ (met_X1_word l dC dI cB cI b0 8 4 B (Nat.le_of_ble_eq_true rfl) (Nat.le_of_ble_eq_true rfl)) (va_cwS 2 hts (lw_S q366 q367 q15 q368) rfl rfl rfl (by decide +kernel) ⟨Nat.le_of_ble_eq_true rfl, Nat.le_of_ble_eq_true rfl⟩) (bf_rdS hK hP [0] rfl) rfl rfl hl.1 rfl (lv_room (Nat.le_of_ble_eq_true rfl)) dX1_runs_19 ⟨Nat.le_of_ble_eq_true rfl, Nat.le_of_ble_eq_true rfl⟩)) ?_
  refine lv_iload_n hx hb dX1_runs_22 rfl (lv_at hl 2 rfl) ?_
  refine bf_calll (va_Run.run (va_runV (As := [.int (bf_wd B 0 4), .int (bf_wd B 4 4), .int 0]) (rest := []) ⟨hx, hb, hml, hown, hts⟩ (met_X1_runs_2_0 l dC dI cB cI h0 k0 b0 o0 t0 (bf_sch bf_PI K (bf_n x)) (bf_wd B 0 4) (bf_wd B 4 4)) (cwV 3 hts (lw_V q357 q359 qs11 q15 q360) rfl rfl rfl (by decide +kernel) ⟨Nat.le_of_ble_eq_true rfl, Nat.le_of_ble_eq_true rfl⟩) (bf_rdV hK hP [2, 4] rfl (ci := 1) (q0 := 2) rfl rfl) rfl rfl hl.1 rfl (lv_room (Nat.le_of_ble_eq_true rfl)) dX1_runs_23 ⟨Nat.le_of_ble_eq_true rfl, Nat.le_of_ble_eq_true rfl⟩)) ?_
  refine lv_lstore_n (lv' := [(3, .long (bf_lg (bf_cr (bf_sch bf_PI K (bf_n x)) (fun i => (bf_sch bf_PI K (bf_n x)) (17 - i)) (bf_wd B 0 4) (bf_wd B 4 4)).1 (bf_cr (bf_sch bf_PI K (bf_n x)) (fun i => (bf_sch bf_PI K (bf_n x)) (17 - i)) (bf_wd B 0 4) (bf_wd B 4 4)).2)), (0, .ref h0), (1, .int x), (2, .int 0)]) hx hb dX1_runs_26 rfl hl (by decide) rfl (fun ls hl => ?_)
  refine lv_aload_n hx hb dX1_runs_27 rfl (lv_at hl 1 rfl) ?_
  refine va_get (D := (dC, dI)) (ci := 1) (v := .ref o0) (C := RX1) (T := TX1) (N := 4) hx hb hts in_X1 hown hK hP 2 rfl rfl 2 (by decide) (hts _ q321) (fun _ h9 => h9) rfl dX1_runs_28 ?_
  refine lv_iconst (v := 0) hx hb dX1_runs_31 (by decide) ?_
  refine lv_lload_n hx hb dX1_runs_32 rfl (lv_at hl 0 rfl) ?_
  refine lv_bipush (v := 32) hx hb dX1_runs_33 (by decide) ?_
  refine lv_lushr hx hb dX1_runs_35 rfl ?_
  refine lv_l2i (v := (bf_cr (bf_sch bf_PI K (bf_n x)) (fun i => (bf_sch bf_PI K (bf_n x)) (17 - i)) (bf_wd B 0 4) (bf_wd B 4 4)).1) hx hb dX1_runs_36 (bf_lg_hi _ _) ?_
  refine bf_callv (wr := [(b0, .inl (cB, 8, .inl B)), (h0, .inr (1, [.ref k0, .ref b0, .ref o0, .ref t0])), (k0, .inl (cB, 32, .inl K)), (t0, .inl (cI, 1042, .inl (bf_sch bf_PI K (bf_n x))))]) (va_runS (As := [.ref o0, .int (nI 0), .int ((bf_cr (bf_sch bf_PI K (bf_n x)) (fun i => (bf_sch bf_PI K (bf_n x)) (17 - i)) (bf_wd B 0 4) (bf_wd B 4 4)).1)]) (rest := []) ⟨hx, hb, hml, hown, hts⟩ (met_X1_put l dC dI cB cI H.size o0 8 0 (bf_cr (bf_sch bf_PI K (bf_n x)) (fun i => (bf_sch bf_PI K (bf_n x)) (17 - i)) (bf_wd B 0 4) (bf_wd B 4 4)).1 O (Nat.le_of_ble_eq_true rfl) (Nat.le_of_ble_eq_true rfl)) (va_cwS 3 hts (lw_S q336 q337 q15 q338) rfl rfl rfl (by decide +kernel) ⟨Nat.le_of_ble_eq_true rfl, Nat.le_of_ble_eq_true rfl⟩) (bf_preS hK hP hD [1] (by decide) rfl) rfl rfl hl.1 rfl (lv_room (Nat.le_of_ble_eq_true rfl)) dX1_runs_37 ⟨Nat.le_of_ble_eq_true rfl, Nat.le_of_ble_eq_true rfl⟩) hP hD hS hA [1] [0, 2, 3, 4] rfl rfl (by decide) (by decide) (fun _ H locs hP hD hS => ?_)
  have hP : va_P (dC, dI) vwCl [(b0, .inl (cB, 8, .inl B)), (h0, .inr (1, [.ref k0, .ref b0, .ref o0, .ref t0])), (k0, .inl (cB, 32, .inl K)), (t0, .inl (cI, 1042, .inl (bf_sch bf_PI K (bf_n x)))), (o0, .inl (cB, 8, .inl (bf_put O 0 (bf_cr (bf_sch bf_PI K (bf_n x)) (fun i => (bf_sch bf_PI K (bf_n x)) (17 - i)) (bf_wd B 0 4) (bf_wd B 4 4)).1)))] H := hP
  have hD : va_D A [(b0, .inl (cB, 8, .inl B)), (h0, .inr (1, [.ref k0, .ref b0, .ref o0, .ref t0])), (k0, .inl (cB, 32, .inl K)), (t0, .inl (cI, 1042, .inl (bf_sch bf_PI K (bf_n x)))), (o0, .inl (cB, 8, .inl (bf_put O 0 (bf_cr (bf_sch bf_PI K (bf_n x)) (fun i => (bf_sch bf_PI K (bf_n x)) (17 - i)) (bf_wd B 0 4) (bf_wd B 4 4)).1)))] := hD
  refine lv_aload_n hx hb dX1_runs_40 rfl (lv_at hl 1 rfl) ?_
  refine va_get (D := (dC, dI)) (ci := 1) (v := .ref o0) (C := RX1) (T := TX1) (N := 4) hx hb hts in_X1 hown hK hP 1 rfl rfl 2 (by decide) (hts _ q321) (fun _ h9 => h9) rfl dX1_runs_41 ?_
  refine lv_iconst (v := 4) hx hb dX1_runs_44 (by decide) ?_
  refine lv_lload_n hx hb dX1_runs_45 rfl (lv_at hl 0 rfl) ?_
  refine lv_l2i (v := (bf_cr (bf_sch bf_PI K (bf_n x)) (fun i => (bf_sch bf_PI K (bf_n x)) (17 - i)) (bf_wd B 0 4) (bf_wd B 4 4)).2) hx hb dX1_runs_46 (bf_lg_lo _ _) ?_
  refine bf_callv (wr := [(b0, .inl (cB, 8, .inl B)), (h0, .inr (1, [.ref k0, .ref b0, .ref o0, .ref t0])), (k0, .inl (cB, 32, .inl K)), (t0, .inl (cI, 1042, .inl (bf_sch bf_PI K (bf_n x))))]) (va_runS (As := [.ref o0, .int (nI 4), .int ((bf_cr (bf_sch bf_PI K (bf_n x)) (fun i => (bf_sch bf_PI K (bf_n x)) (17 - i)) (bf_wd B 0 4) (bf_wd B 4 4)).2)]) (rest := []) ⟨hx, hb, hml, hown, hts⟩ (met_X1_put l dC dI cB cI H.size o0 8 4 (bf_cr (bf_sch bf_PI K (bf_n x)) (fun i => (bf_sch bf_PI K (bf_n x)) (17 - i)) (bf_wd B 0 4) (bf_wd B 4 4)).2 (bf_put O 0 (bf_cr (bf_sch bf_PI K (bf_n x)) (fun i => (bf_sch bf_PI K (bf_n x)) (17 - i)) (bf_wd B 0 4) (bf_wd B 4 4)).1) (Nat.le_of_ble_eq_true rfl) (Nat.le_of_ble_eq_true rfl)) (va_cwS 3 hts (lw_S q336 q337 q15 q338) rfl rfl rfl (by decide +kernel) ⟨Nat.le_of_ble_eq_true rfl, Nat.le_of_ble_eq_true rfl⟩) (bf_preS hK hP hD [4] (by decide) rfl) rfl rfl hl.1 rfl (lv_room (Nat.le_of_ble_eq_true rfl)) dX1_runs_47 ⟨Nat.le_of_ble_eq_true rfl, Nat.le_of_ble_eq_true rfl⟩) hP hD hS hA [4] [0, 1, 2, 3] rfl rfl (by decide) (by decide) (fun _ H locs hP hD hS => ?_)
  have hP : va_P (dC, dI) vwCl [(b0, .inl (cB, 8, .inl B)), (h0, .inr (1, [.ref k0, .ref b0, .ref o0, .ref t0])), (k0, .inl (cB, 32, .inl K)), (t0, .inl (cI, 1042, .inl (bf_sch bf_PI K (bf_n x)))), (o0, .inl (cB, 8, .inl (bf_put (bf_put O 0 (bf_cr (bf_sch bf_PI K (bf_n x)) (fun i => (bf_sch bf_PI K (bf_n x)) (17 - i)) (bf_wd B 0 4) (bf_wd B 4 4)).1) 4 (bf_cr (bf_sch bf_PI K (bf_n x)) (fun i => (bf_sch bf_PI K (bf_n x)) (17 - i)) (bf_wd B 0 4) (bf_wd B 4 4)).2)))] H := hP
  have hD : va_D A [(b0, .inl (cB, 8, .inl B)), (h0, .inr (1, [.ref k0, .ref b0, .ref o0, .ref t0])), (k0, .inl (cB, 32, .inl K)), (t0, .inl (cI, 1042, .inl (bf_sch bf_PI K (bf_n x)))), (o0, .inl (cB, 8, .inl (bf_put (bf_put O 0 (bf_cr (bf_sch bf_PI K (bf_n x)) (fun i => (bf_sch bf_PI K (bf_n x)) (17 - i)) (bf_wd B 0 4) (bf_wd B 4 4)).1) 4 (bf_cr (bf_sch bf_PI K (bf_n x)) (fun i => (bf_sch bf_PI K (bf_n x)) (17 - i)) (bf_wd B 0 4) (bf_wd B 4 4)).2)))] := hD
  rw [bf_out_0] at hP hD
  have hP := hP.sub (ws' := [(h0, .inr (1, [.ref k0, .ref b0, .ref o0, .ref t0])), (k0, .inl (cB, 32, .inl K)), (b0, .inl (cB, 8, .inl B)), (o0, .inl (cB, 8, .inl (bf_out bf_PI K B O (bf_n x) false))), (t0, .inl (cI, 1042, .inl (bf_sch bf_PI K (bf_n x))))]) [1, 2, 0, 4, 3] rfl
  have hD := hD.sub (ws' := [(h0, .inr (1, [.ref k0, .ref b0, .ref o0, .ref t0])), (k0, .inl (cB, 32, .inl K)), (b0, .inl (cB, 8, .inl B)), (o0, .inl (cB, 8, .inl (bf_out bf_PI K B O (bf_n x) false))), (t0, .inl (cI, 1042, .inl (bf_sch bf_PI K (bf_n x))))]) [1, 2, 0, 4, 3] (by decide) rfl
  exact W.vret hx hb hr (fun t ht hW => ⟨⟨(), rfl, trivial, by rw [ht]; exact hP, hD⟩, hS.F ht⟩) hS.2.2 dX1_runs_50
set_option maxHeartbeats 4000000 in
set_option maxRecDepth 100000 in
/-- lock(kind) -/
theorem met_X1_lock (l : Launch) (dC : Nat → ClassId) (dI : Nat → Nat → Nat) (cB cI : ClassId) (tS : Nat → Nat) (sz : Nat) (h0 k0 b0 o0 t0 : Nat) (K B O T : Nat → Int32) (x : Int32) : Met l yX1_lock (ws_ yX1_lock cX1_lock 2 none) ({ frames := 4, cells := 0, slots := 0, locals := 99 }) (va_Pc [.ref h0, .int x] (bfPreX (dC, dI) cB cI tS [(h0, .inr (1, [.ref k0, .ref b0, .ref o0, .ref t0])), (k0, .inl (cB, 32, .inl K)), (b0, .inl (cB, 8, .inl B)), (o0, .inl (cB, 8, .inl O)), (t0, .inl (cI, 1042, .inl T))] sz)) (va_Qv (fun _ : Unit => True) (fun _ t => bfPost (dC, dI) [(h0, .inr (1, [.ref k0, .ref b0, .ref o0, .ref t0])), (k0, .inl (cB, 32, .inl K)), (b0, .inl (cB, 8, .inl B)), (o0, .inl (cB, 8, .inl (bf_out bf_PI K B O (bf_n x) true))), (t0, .inl (cI, 1042, .inl (bf_sch bf_PI K (bf_n x))))] (va_A [(h0, .inr (1, [.ref k0, .ref b0, .ref o0, .ref t0])), (k0, .inl (cB, 32, .inl K)), (b0, .inl (cB, 8, .inl B)), (o0, .inl (cB, 8, .inl O)), (t0, .inl (cI, 1042, .inl T))] sz) t) (va_A [(h0, .inr (1, [.ref k0, .ref b0, .ref o0, .ref t0])), (k0, .inl (cB, 32, .inl K)), (b0, .inl (cB, 8, .inl B)), (o0, .inl (cB, 8, .inl O)), (t0, .inl (cI, 1042, .inl T))] sz)) 0 0 (va_A [(h0, .inr (1, [.ref k0, .ref b0, .ref o0, .ref t0])), (k0, .inl (cB, 32, .inl K)), (b0, .inl (cB, 8, .inl B)), (o0, .inl (cB, 8, .inl O)), (t0, .inl (cI, 1042, .inl T))] sz) := by
  refine Met.ofW (cc := cX1_lock) (maxL := 2) (ret := none) (by decide) rfl ?_
  intro p e s m args below meth c s₁ hBo hml hv
  obtain ⟨rfl, ⟨hsz, hP, hK, hD0⟩, hX⟩ := hv
  have hx := hBo.exec
  have hb := hBo.bytes
  have hr := hBo.returns
  have hts := atoms_spec (ws := (ws_ yX1_lock cX1_lock 2 none)) hBo.pre
  have hts : ∀ w ∈ lw_all, w.before _ s = true := fun w h => hts w (List.mem_cons_of_mem _ h)
  have hown : s.vm.findClass RX1 = some m.cls := findClass_of_methodNamed hBo.named
  have hlocks := hBo.notSynchronized
  subst hsz
  have hD := hD0.self (sz := s.heap.size)
  generalize hAe : va_A [(h0, .inr (1, [.ref k0, .ref b0, .ref o0, .ref t0])), (k0, .inl (cB, 32, .inl K)), (b0, .inl (cB, 8, .inl B)), (o0, .inl (cB, 8, .inl O)), (t0, .inl (cI, 1042, .inl T))] s.heap.size = A at hD ⊢ hX
  have hA : ∀ q : Nat, s.heap.size ≤ q → A q := fun q h => by rw [← hAe]; exact Or.inr h
  have hS : va_S A s.heap s.heap [] := va_S.rf
  have hl := lv_entry ([.ref h0, .int x]) (n := 2) (Nat.le_of_ble_eq_true rfl)
  rw [lg_entry_eq]
  generalize (lg_sl ([.ref h0, .int x]) ++ List.replicate (2 - (lg_sl ([.ref h0, .int x])).length) Slot.unset).toArray = ls at hl ⊢
  have hl : lv_has ls 2 [(0, .ref h0), (1, .int x)] := hl
  refine lv_aload_n hx hb dX1_lock_0 rfl (lv_at hl 0 rfl) ?_
  refine lv_iload_n hx hb dX1_lock_1 rfl (lv_at hl 1 rfl) ?_
  refine lv_iconst (v := 1) hx hb dX1_lock_2 (by decide) ?_
  refine bf_callv (wr := []) (va_runV (As := [.int x, .int 1]) (rest := []) ⟨hx, hb, hml, hown, hts⟩ (met_X1_runs_1 l dC dI cB cI tS s.heap.size h0 k0 b0 o0 t0 K B O T x) (cwV 2 hts (lw_V q347 q349 qs9 q15 q350) rfl rfl rfl (by decide +kernel) ⟨Nat.le_of_ble_eq_true rfl, Nat.le_of_ble_eq_true rfl⟩) (bf_preVX hK hP hD [0, 1, 2, 3, 4] (by decide) rfl (ci := 1) (q0 := 0) rfl rfl hX hS hA) rfl rfl hl.1 rfl (lv_room (Nat.le_of_ble_eq_true rfl)) dX1_lock_3 ⟨Nat.le_of_ble_eq_true rfl, Nat.le_of_ble_eq_true rfl⟩) hP hD hS hA [0, 1, 2, 3, 4] [] rfl rfl (by decide) (by decide) (fun _ H locs hP hD hS => ?_)
  have hP : va_P (dC, dI) vwCl [(h0, .inr (1, [.ref k0, .ref b0, .ref o0, .ref t0])), (k0, .inl (cB, 32, .inl K)), (b0, .inl (cB, 8, .inl B)), (o0, .inl (cB, 8, .inl (bf_out bf_PI K B O (bf_n x) true))), (t0, .inl (cI, 1042, .inl (bf_sch bf_PI K (bf_n x))))] H := hP
  have hD : va_D A [(h0, .inr (1, [.ref k0, .ref b0, .ref o0, .ref t0])), (k0, .inl (cB, 32, .inl K)), (b0, .inl (cB, 8, .inl B)), (o0, .inl (cB, 8, .inl (bf_out bf_PI K B O (bf_n x) true))), (t0, .inl (cI, 1042, .inl (bf_sch bf_PI K (bf_n x))))] := hD
  exact W.vret hx hb hr (fun t ht hW => ⟨⟨(), rfl, trivial, by rw [ht]; exact hP, hD⟩, hS.F ht⟩) hS.2.2 dX1_lock_6
set_option maxHeartbeats 4000000 in
set_option maxRecDepth 100000 in
/-- open(kind) -/
theorem met_X1_open (l : Launch) (dC : Nat → ClassId) (dI : Nat → Nat → Nat) (cB cI : ClassId) (tS : Nat → Nat) (sz : Nat) (h0 k0 b0 o0 t0 : Nat) (K B O T : Nat → Int32) (x : Int32) : Met l yX1_open (ws_ yX1_open cX1_open 2 none) ({ frames := 4, cells := 0, slots := 0, locals := 99 }) (va_Pc [.ref h0, .int x] (bfPreX (dC, dI) cB cI tS [(h0, .inr (1, [.ref k0, .ref b0, .ref o0, .ref t0])), (k0, .inl (cB, 32, .inl K)), (b0, .inl (cB, 8, .inl B)), (o0, .inl (cB, 8, .inl O)), (t0, .inl (cI, 1042, .inl T))] sz)) (va_Qv (fun _ : Unit => True) (fun _ t => bfPost (dC, dI) [(h0, .inr (1, [.ref k0, .ref b0, .ref o0, .ref t0])), (k0, .inl (cB, 32, .inl K)), (b0, .inl (cB, 8, .inl B)), (o0, .inl (cB, 8, .inl (bf_out bf_PI K B O (bf_n x) false))), (t0, .inl (cI, 1042, .inl (bf_sch bf_PI K (bf_n x))))] (va_A [(h0, .inr (1, [.ref k0, .ref b0, .ref o0, .ref t0])), (k0, .inl (cB, 32, .inl K)), (b0, .inl (cB, 8, .inl B)), (o0, .inl (cB, 8, .inl O)), (t0, .inl (cI, 1042, .inl T))] sz) t) (va_A [(h0, .inr (1, [.ref k0, .ref b0, .ref o0, .ref t0])), (k0, .inl (cB, 32, .inl K)), (b0, .inl (cB, 8, .inl B)), (o0, .inl (cB, 8, .inl O)), (t0, .inl (cI, 1042, .inl T))] sz)) 0 0 (va_A [(h0, .inr (1, [.ref k0, .ref b0, .ref o0, .ref t0])), (k0, .inl (cB, 32, .inl K)), (b0, .inl (cB, 8, .inl B)), (o0, .inl (cB, 8, .inl O)), (t0, .inl (cI, 1042, .inl T))] sz) := by
  refine Met.ofW (cc := cX1_open) (maxL := 2) (ret := none) (by decide) rfl ?_
  intro p e s m args below meth c s₁ hBo hml hv
  obtain ⟨rfl, ⟨hsz, hP, hK, hD0⟩, hX⟩ := hv
  have hx := hBo.exec
  have hb := hBo.bytes
  have hr := hBo.returns
  have hts := atoms_spec (ws := (ws_ yX1_open cX1_open 2 none)) hBo.pre
  have hts : ∀ w ∈ lw_all, w.before _ s = true := fun w h => hts w (List.mem_cons_of_mem _ h)
  have hown : s.vm.findClass RX1 = some m.cls := findClass_of_methodNamed hBo.named
  have hlocks := hBo.notSynchronized
  subst hsz
  have hD := hD0.self (sz := s.heap.size)
  generalize hAe : va_A [(h0, .inr (1, [.ref k0, .ref b0, .ref o0, .ref t0])), (k0, .inl (cB, 32, .inl K)), (b0, .inl (cB, 8, .inl B)), (o0, .inl (cB, 8, .inl O)), (t0, .inl (cI, 1042, .inl T))] s.heap.size = A at hD ⊢ hX
  have hA : ∀ q : Nat, s.heap.size ≤ q → A q := fun q h => by rw [← hAe]; exact Or.inr h
  have hS : va_S A s.heap s.heap [] := va_S.rf
  have hl := lv_entry ([.ref h0, .int x]) (n := 2) (Nat.le_of_ble_eq_true rfl)
  rw [lg_entry_eq]
  generalize (lg_sl ([.ref h0, .int x]) ++ List.replicate (2 - (lg_sl ([.ref h0, .int x])).length) Slot.unset).toArray = ls at hl ⊢
  have hl : lv_has ls 2 [(0, .ref h0), (1, .int x)] := hl
  refine lv_aload_n hx hb dX1_open_0 rfl (lv_at hl 0 rfl) ?_
  refine lv_iload_n hx hb dX1_open_1 rfl (lv_at hl 1 rfl) ?_
  refine lv_iconst (v := 0) hx hb dX1_open_2 (by decide) ?_
  refine bf_callv (wr := []) (va_runV (As := [.int x, .int 0]) (rest := []) ⟨hx, hb, hml, hown, hts⟩ (met_X1_runs_0 l dC dI cB cI tS s.heap.size h0 k0 b0 o0 t0 K B O T x) (cwV 2 hts (lw_V q347 q349 qs9 q15 q350) rfl rfl rfl (by decide +kernel) ⟨Nat.le_of_ble_eq_true rfl, Nat.le_of_ble_eq_true rfl⟩) (bf_preVX hK hP hD [0, 1, 2, 3, 4] (by decide) rfl (ci := 1) (q0 := 0) rfl rfl hX hS hA) rfl rfl hl.1 rfl (lv_room (Nat.le_of_ble_eq_true rfl)) dX1_open_3 ⟨Nat.le_of_ble_eq_true rfl, Nat.le_of_ble_eq_true rfl⟩) hP hD hS hA [0, 1, 2, 3, 4] [] rfl rfl (by decide) (by decide) (fun _ H locs hP hD hS => ?_)
  have hP : va_P (dC, dI) vwCl [(h0, .inr (1, [.ref k0, .ref b0, .ref o0, .ref t0])), (k0, .inl (cB, 32, .inl K)), (b0, .inl (cB, 8, .inl B)), (o0, .inl (cB, 8, .inl (bf_out bf_PI K B O (bf_n x) false))), (t0, .inl (cI, 1042, .inl (bf_sch bf_PI K (bf_n x))))] H := hP
  have hD : va_D A [(h0, .inr (1, [.ref k0, .ref b0, .ref o0, .ref t0])), (k0, .inl (cB, 32, .inl K)), (b0, .inl (cB, 8, .inl B)), (o0, .inl (cB, 8, .inl (bf_out bf_PI K B O (bf_n x) false))), (t0, .inl (cI, 1042, .inl (bf_sch bf_PI K (bf_n x))))] := hD
  exact W.vret hx hb hr (fun t ht hW => ⟨⟨(), rfl, trivial, by rw [ht]; exact hP, hD⟩, hS.F ht⟩) hS.2.2 dX1_open_6
set_option maxHeartbeats 4000000 in
set_option maxRecDepth 100000 in
/-- again() -/
theorem met_X1_again (l : Launch) (dC : Nat → ClassId) (dI : Nat → Nat → Nat) (cB cI : ClassId) (sz : Nat) (h0 k0 b0 o0 t0 : Nat) (K B O T : Nat → Int32) : Met l yX1_again (ws_ yX1_again cX1_again 2 none) ({ frames := 0, cells := 0, slots := 0, locals := 0 }) (va_Pc [.ref h0] (bfPre (dC, dI) cB cI [(h0, .inr (1, [.ref k0, .ref b0, .ref o0, .ref t0])), (b0, .inl (cB, 8, .inl B)), (o0, .inl (cB, 8, .inl O))] sz)) (va_Qv (fun _ : Unit => True) (fun _ t => bfPost (dC, dI) [(h0, .inr (1, [.ref k0, .ref b0, .ref o0, .ref t0])), (b0, .inl (cB, 8, .inl (bf_cp B O 8))), (o0, .inl (cB, 8, .inl O))] (va_A [(h0, .inr (1, [.ref k0, .ref b0, .ref o0, .ref t0])), (b0, .inl (cB, 8, .inl B)), (o0, .inl (cB, 8, .inl O))] sz) t) (va_A [(h0, .inr (1, [.ref k0, .ref b0, .ref o0, .ref t0])), (b0, .inl (cB, 8, .inl B)), (o0, .inl (cB, 8, .inl O))] sz)) 0 0 (va_A [(h0, .inr (1, [.ref k0, .ref b0, .ref o0, .ref t0])), (b0, .inl (cB, 8, .inl B)), (o0, .inl (cB, 8, .inl O))] sz) := by
  refine Met.ofW (cc := cX1_again) (maxL := 2) (ret := none) (by decide) rfl ?_
  intro p e s m args below meth c s₁ hBo hml hv
  obtain ⟨rfl, hsz, hP, hK, hD0⟩ := hv
  have hx := hBo.exec
  have hb := hBo.bytes
  have hr := hBo.returns
  have hts := atoms_spec (ws := (ws_ yX1_again cX1_again 2 none)) hBo.pre
  have hts : ∀ w ∈ lw_all, w.before _ s = true := fun w h => hts w (List.mem_cons_of_mem _ h)
  have hown : s.vm.findClass RX1 = some m.cls := findClass_of_methodNamed hBo.named
  have hlocks := hBo.notSynchronized
  subst hsz
  have hD := hD0.self (sz := s.heap.size)
  generalize hAe : va_A [(h0, .inr (1, [.ref k0, .ref b0, .ref o0, .ref t0])), (b0, .inl (cB, 8, .inl B)), (o0, .inl (cB, 8, .inl O))] s.heap.size = A at hD ⊢
  have hA : ∀ q : Nat, s.heap.size ≤ q → A q := fun q h => by rw [← hAe]; exact Or.inr h
  have hS : va_S A s.heap s.heap [] := va_S.rf
  have hl := lv_entry ([.ref h0]) (n := 2) (Nat.le_of_ble_eq_true rfl)
  rw [lg_entry_eq]
  generalize (lg_sl ([.ref h0]) ++ List.replicate (2 - (lg_sl ([.ref h0])).length) Slot.unset).toArray = ls at hl ⊢
  have hl : lv_has ls 2 [(0, .ref h0)] := hl
  refine lv_iconst (v := 0) hx hb dX1_again_0 (by decide) ?_
  refine lv_istore_n (lv' := [(1, .int 0), (0, .ref h0)]) hx hb dX1_again_1 rfl hl (by decide) rfl (fun ls hl => ?_)
  have hP : va_P (dC, dI) vwCl [(h0, .inr (1, [.ref k0, .ref b0, .ref o0, .ref t0])), (b0, .inl (cB, 8, .inl (bf_cp B O 0))), (o0, .inl (cB, 8, .inl O))] s.heap := by rw [bf_cp_0]; exact hP
  have hD : va_D A [(h0, .inr (1, [.ref k0, .ref b0, .ref o0, .ref t0])), (b0, .inl (cB, 8, .inl (bf_cp B O 0))), (o0, .inl (cB, 8, .inl O))] := by rw [bf_cp_0]; exact hD
  have hl := lv_sub (l' := [(0, .ref h0), (1, .int 0)]) hl [1, 0] rfl
  refine bf_while 8 (fun i H locs ls => va_P (dC, dI) vwCl [(h0, .inr (1, [.ref k0, .ref b0, .ref o0, .ref t0])), (b0, .inl (cB, 8, .inl (bf_cp B O i))), (o0, .inl (cB, 8, .inl O))] H ∧ va_D A [(h0, .inr (1, [.ref k0, .ref b0, .ref o0, .ref t0])), (b0, .inl (cB, 8, .inl (bf_cp B O i))), (o0, .inl (cB, 8, .inl O))] ∧ va_S A s.heap H locs ∧ lv_has ls 2 [(0, .ref h0), (1, .int (nI i))]) (fun _ => 0) (fun _ => 0) 0 (Nat.zero_le _) ⟨hP, hD, hS, hl⟩ (fun H locs ls hI => ?_) (fun i hi ih H locs ls hI => ?_)
  · obtain ⟨hP, hD, hS, hl⟩ := hI
    refine lv_iload_n hx hb dX1_again_2 rfl (lv_at hl 1 rfl) ?_
    refine lv_bipush (v := 8) hx hb dX1_again_3 (by decide) ?_
    refine lv_icmp_ge (tgt := 26) hx hb dX1_again_5 (by decide) (fun _ => ?_) (fun h9 => absurd (nI_le (a := 8) (b := 8) (Nat.le_of_ble_eq_true rfl) (Nat.le_of_ble_eq_true rfl)) h9)
    exact W.vret hx hb hr (fun t ht hW => ⟨⟨(), rfl, trivial, by rw [ht]; exact hP, hD⟩, hS.F ht⟩) hS.2.2 dX1_again_26
  · obtain ⟨hP, hD, hS, hl⟩ := hI
    refine lv_iload_n hx hb dX1_again_2 rfl (lv_at hl 1 rfl) ?_
    refine lv_bipush (v := 8) hx hb dX1_again_3 (by decide) ?_
    refine lv_icmp_ge (tgt := 26) hx hb dX1_again_5 (by decide) (fun h9 => absurd h9 (nI_ge (a := i) (b := 8) hi (Nat.le_of_ble_eq_true rfl))) (fun _ => ?_)
    refine lv_aload_n hx hb dX1_again_8 rfl (lv_at hl 0 rfl) ?_
    refine va_get (D := (dC, dI)) (ci := 1) (v := .ref b0) (C := RX1) (T := TX1) (N := 4) hx hb hts in_X1 hown hK hP 0 rfl rfl 1 (by decide) (hts _ q320) (fun _ h9 => h9) rfl dX1_again_9 ?_
    refine lv_iload_n hx hb dX1_again_12 rfl (lv_at hl 1 rfl) ?_
    refine lv_aload_n hx hb dX1_again_13 rfl (lv_at hl 0 rfl) ?_
    refine va_get (D := (dC, dI)) (ci := 1) (v := .ref o0) (C := RX1) (T := TX1) (N := 4) hx hb hts in_X1 hown hK hP 0 rfl rfl 2 (by decide) (hts _ q321) (fun _ h9 => h9) rfl dX1_again_14 ?_
    refine lv_iload_n hx hb dX1_again_17 rfl (lv_at hl 1 rfl) ?_
    refine bf_bald hx hb hK hP 2 0 rfl rfl dX1_again_18 i rfl hi (Nat.le_of_ble_eq_true rfl) ?_
    refine bf_bast hx hb hK hP hD hS 1 0 rfl rfl dX1_again_19 i rfl hi (Nat.le_of_ble_eq_true rfl) ((O i).toInt8.toInt32) rfl (fun H locs hP hD hS => ?_)
    have hP : va_P (dC, dI) vwCl [(h0, .inr (1, [.ref k0, .ref b0, .ref o0, .ref t0])), (b0, .inl (cB, 8, .inl (upd (bf_cp B O i) i ((O i).toInt8.toInt32)))), (o0, .inl (cB, 8, .inl O))] H := hP
    have hD : va_D A [(h0, .inr (1, [.ref k0, .ref b0, .ref o0, .ref t0])), (b0, .inl (cB, 8, .inl (upd (bf_cp B O i) i ((O i).toInt8.toInt32)))), (o0, .inl (cB, 8, .inl O))] := hD
    rw [bf_cp_s] at hP hD
    refine lv_iinc (v := nI (i + 1)) (lv' := [(1, .int (nI (i + 1))), (0, .ref h0)]) hx hb dX1_again_20 hl (k := 1) rfl (nI_add i 1) (by decide) rfl (fun ls hl => ?_)
    refine lv_goto (tgt := 2) hx hb dX1_again_23 (by decide) ?_
    exact ih H locs ls ⟨hP, hD, hS, lv_sub hl [1, 0] rfl⟩
set_option maxHeartbeats 4000000 in
set_option maxRecDepth 100000 in
/-- out(x) -/
theorem met_X1_out (l : Launch) (dC : Nat → ClassId) (dI : Nat → Nat → Nat) (cB cI : ClassId) (h0 k0 b0 o0 t0 : Nat) (K B O T : Nat → Int32) (x : Int32) : Met l yX1_out (ws_ yX1_out cX1_out 2 (some .int)) ({ frames := 0, cells := 0, slots := 0, locals := 0 }) (va_Pc [.ref h0, .int x] (bfRd (dC, dI) cB cI [(h0, .inr (1, [.ref k0, .ref b0, .ref o0, .ref t0])), (o0, .inl (cB, 8, .inl O))])) (vp_Si (fun r => r = O (x.toBitVec.toNat % 2 ^ 3) &&& 255)) 0 0 (fun _ => False) := by
  refine Met.ofW (cc := cX1_out) (maxL := 2) (ret := (some .int)) (by decide) rfl ?_
  intro p e s m args below meth c s₁ hBo hml hv
  obtain ⟨rfl, hP, hK⟩ := hv
  have hx := hBo.exec
  have hb := hBo.bytes
  have hr := hBo.returns
  have hts := atoms_spec (ws := (ws_ yX1_out cX1_out 2 (some .int))) hBo.pre
  have hts : ∀ w ∈ lw_all, w.before _ s = true := fun w h => hts w (List.mem_cons_of_mem _ h)
  have hown : s.vm.findClass RX1 = some m.cls := findClass_of_methodNamed hBo.named
  have hlocks := hBo.notSynchronized
  have hl := lv_entry ([.ref h0, .int x]) (n := 2) (Nat.le_of_ble_eq_true rfl)
  rw [lg_entry_eq]
  generalize (lg_sl ([.ref h0, .int x]) ++ List.replicate (2 - (lg_sl ([.ref h0, .int x])).length) Slot.unset).toArray = ls at hl ⊢
  have hl : lv_has ls 2 [(0, .ref h0), (1, .int x)] := hl
  refine lv_aload_n hx hb dX1_out_0 rfl (lv_at hl 0 rfl) ?_
  refine va_get (D := (dC, dI)) (ci := 1) (v := .ref o0) (C := RX1) (T := TX1) (N := 4) hx hb hts in_X1 hown hK hP 0 rfl rfl 2 (by decide) (hts _ q321) (fun _ h9 => h9) rfl dX1_out_1 ?_
  refine lv_iload_n hx hb dX1_out_4 rfl (lv_at hl 1 rfl) ?_
  refine lv_bipush (v := 7) hx hb dX1_out_5 (by decide) ?_
  refine lv_iand hx hb dX1_out_7 ?_
  refine bf_topE (y := nI (x.toBitVec.toNat % 2 ^ 3)) (pk_and x 3 (by decide)) ?_
  refine bf_bald hx hb hK hP 1 0 rfl rfl dX1_out_8 (x.toBitVec.toNat % 2 ^ 3) rfl (by omega) (Nat.le_of_ble_eq_true rfl) ?_
  refine lv_sipush (v := 255) hx hb dX1_out_9 (by decide) ?_
  refine lv_iand hx hb dX1_out_12 ?_
  exact W.iret (v := ((O (x.toBitVec.toNat % 2 ^ 3)) &&& 255)) hx hb hr (fun t ht hW => ⟨_, rfl, rfl, by rw [ht]⟩) (fun q h => by cases h) dX1_out_13
end
section
/-! THE CLAIM OUT OF ONE WALK OF THE LAW'S BODY. Your part is whole_start (and what it stands on); all else here is the same for every law, but numbers. -/
def R_law : String := "BlowfishDeskLaw"
def lw_P (b : Addr) (xs : List Int32) (args : Array Value) (s : State) : Prop := args = #[.ref b] ∧ s.IntsAt b xs ∧ xs.length ≤ 288 ∧ (Jvm.Cond.and given_1 narrow_1).before args s = true
def lw_Q (_ : Array Value) (s : State) (o : Outcome) (t : State) : Prop := o = .returned (some (.int 1)) ∧ Framed s o t [] 600096 7301386
def lw_Z (below : List Frame) (a : Array Value) (s : State) : State → Prop := fun t => ∃ o, t.status = .running ∧ Ended t below o ∧ lw_Q a s o t
/-- the law's own end, with 1 on the stack, nothing written that was there before, its room as the claim has it -/
theorem lw_ret {p : Program} {l : Launch} {e : Env} {s : State} {m : MethodId} {below : List Frame} {meth : Method} {c : Code} {b : Nat} (hx : p.tables.exec = Jvm.exec) (hb : c.code = code) (hr : meth.sig.returnType = ret) (hlocks : meth.locks = false) {pc : Nat} {H : Heap} {ls : Array Slot} (hdg : decode code pc = .ok (.ireturn, 1)) : W p l e room_1 s m #[Value.ref b] below meth c H [] 600096 7301386 (lw_Z below #[Value.ref b] s) (F0 m pc ls [.int 1]) := by
  intro T hT X
  obtain ⟨fs, hret, hrun, hended, hW, hframe⟩ := X.leave (v := some (.int 1)) (hlocks := hlocks) (fun h => by rw [hr] at h; cases h)
  have hmeth' : T.vm.method? m = some meth := X.method'
  refine ⟨T.setFrames fs, ?_, .returned (some (.int 1)), hrun, hended, rfl, ⟨_, rfl⟩, hW, hframe⟩
  jvm_step X.here [X.here.top, hx, hb, hdg, hmeth', hr, ret, narrow_b1]
  (try refine ⟨rfl, ?_⟩); (try refine ⟨rfl, ?_⟩)
  first | (intro acts; rw [hret _ acts rfl rfl rfl]) | rw [hret _ _ rfl rfl rfl]
  exact Steps.refl _
/-- what holds at the law's entry: the machine, the code, the tables' words (any of lw_tbl by 'hts w (by decide +kernel)'), the script of L ints xs at the cell b, what the Statement gives of the start (any of its parts by flat_of_before) -/
def lw_At (p : Program) (s : State) (m : MethodId) (meth : Method) (c : Code) (b L : Nat) (xs : Nat → Int32) : Prop :=
  p.tables.exec = Jvm.exec ∧ c.code = code ∧ meth.sig.returnType = ret ∧ c.maxLocals = 4 ∧ s.vm.findClass R_law = some m.cls ∧ (∀ w ∈ lw_tbl, w.before #[Value.ref b] s = true) ∧ va_X b L xs s s.heap ∧ b < s.heap.size ∧ meth.locks = false ∧ (Jvm.Cond.and given_1 narrow_1).before #[Value.ref b] s = true
end
section
/-! THE LAW: what the start gives of the static tables; the walk of its body -/
theorem bf_PIlen : bf_PIl.length = 1042 := by decide +kernel
theorem bf_PI_dt (o N j : Nat) (hj : j < N) : ((bf_PIl.drop o).take N).getD j 0 = bf_PI (o + j) := by
  unfold bf_PI
  rw [List.getD_eq_getElem?_getD, List.getD_eq_getElem?_getD, List.getElem?_take, if_pos hj, List.getElem?_drop]
theorem bf_arr_KS0 : (Cond.arrayOf (.static "BlowfishEngine" "KS0" "[I") .int) ∈ bf_L := List.mem_of_getElem? (i := 8) (by decide +kernel)
theorem bf_len_KS0 : (Cond.eq (.length (.static "BlowfishEngine" "KS0" "[I")) (.int 256)) ∈ bf_L := List.mem_of_getElem? (i := 10) (by decide +kernel)
theorem bf_tab_KS0 {b : Nat} {s : State} {A : Nat → Prop} (hts0 : ∀ w ∈ lw_tbl, w.before #[Value.ref b] s = true) (hgv : (Jvm.Cond.and given_1 narrow_1).before #[Value.ref b] s = true) (hA : ∀ a : Nat, a < s.heap.size → ¬ A a) : ∃ t : Nat, bfS "BlowfishEngine" "KS0" t 256 (fun j => bf_PI (18 + j)) A s s.heap := by
  have hs := flat_of_before _ hgv
  have hel : ∀ j : Nat, j < 256 → (Term.elem (.static "BlowfishEngine" "KS0" "[I") (.int (Int32.ofNat j))).eval #[Value.ref b] s none [] s = some (.int ((fun j => bf_PI (18 + j)) j)) := by
    intro j hj
    have h1 := bf_ck_spec _ _ 0 bf_run_KS0 j (by rw [List.length_take, List.length_drop, bf_PIlen]; omega)
    have h2 := va_eqt (hs _ (List.mem_of_mem_drop h1))
    rw [bf_PI_dt 18 256 j hj, Nat.zero_add] at h2
    exact h2
  obtain ⟨t, h1, h2⟩ := va_Tof (A := A) (tm := .static "BlowfishEngine" "KS0" "[I") (ty := .int) (N := 256) (f := fun j => .int ((fun j => bf_PI (18 + j)) j)) (Nat.le_of_ble_eq_true rfl) (hs _ bf_arr_KS0) (va_eqt (hs _ bf_len_KS0)) hel hA
  exact ⟨t, va_Zref (hts0 _ q204) (hts0 _ (lw_all_tbl q16)) h1 hA, h2⟩
theorem bf_arr_KS1 : (Cond.arrayOf (.static "BlowfishEngine" "KS1" "[I") .int) ∈ bf_L := List.mem_of_getElem? (i := 268) (by decide +kernel)
theorem bf_len_KS1 : (Cond.eq (.length (.static "BlowfishEngine" "KS1" "[I")) (.int 256)) ∈ bf_L := List.mem_of_getElem? (i := 270) (by decide +kernel)
theorem bf_tab_KS1 {b : Nat} {s : State} {A : Nat → Prop} (hts0 : ∀ w ∈ lw_tbl, w.before #[Value.ref b] s = true) (hgv : (Jvm.Cond.and given_1 narrow_1).before #[Value.ref b] s = true) (hA : ∀ a : Nat, a < s.heap.size → ¬ A a) : ∃ t : Nat, bfS "BlowfishEngine" "KS1" t 256 (fun j => bf_PI (274 + j)) A s s.heap := by
  have hs := flat_of_before _ hgv
  have hel : ∀ j : Nat, j < 256 → (Term.elem (.static "BlowfishEngine" "KS1" "[I") (.int (Int32.ofNat j))).eval #[Value.ref b] s none [] s = some (.int ((fun j => bf_PI (274 + j)) j)) := by
    intro j hj
    have h1 := bf_ck_spec _ _ 0 bf_run_KS1 j (by rw [List.length_take, List.length_drop, bf_PIlen]; omega)
    have h2 := va_eqt (hs _ (List.mem_of_mem_drop h1))
    rw [bf_PI_dt 274 256 j hj, Nat.zero_add] at h2
    exact h2
  obtain ⟨t, h1, h2⟩ := va_Tof (A := A) (tm := .static "BlowfishEngine" "KS1" "[I") (ty := .int) (N := 256) (f := fun j => .int ((fun j => bf_PI (274 + j)) j)) (Nat.le_of_ble_eq_true rfl) (hs _ bf_arr_KS1) (va_eqt (hs _ bf_len_KS1)) hel hA
  exact ⟨t, va_Zref (hts0 _ q207) (hts0 _ (lw_all_tbl q16)) h1 hA, h2⟩
theorem bf_arr_KS2 : (Cond.arrayOf (.static "BlowfishEngine" "KS2" "[I") .int) ∈ bf_L := List.mem_of_getElem? (i := 528) (by decide +kernel)
theorem bf_len_KS2 : (Cond.eq (.length (.static "BlowfishEngine" "KS2" "[I")) (.int 256)) ∈ bf_L := List.mem_of_getElem? (i := 530) (by decide +kernel)
theorem bf_tab_KS2 {b : Nat} {s : State} {A : Nat → Prop} (hts0 : ∀ w ∈ lw_tbl, w.before #[Value.ref b] s = true) (hgv : (Jvm.Cond.and given_1 narrow_1).before #[Value.ref b] s = true) (hA : ∀ a : Nat, a < s.heap.size → ¬ A a) : ∃ t : Nat, bfS "BlowfishEngine" "KS2" t 256 (fun j => bf_PI (530 + j)) A s s.heap := by
  have hs := flat_of_before _ hgv
  have hel : ∀ j : Nat, j < 256 → (Term.elem (.static "BlowfishEngine" "KS2" "[I") (.int (Int32.ofNat j))).eval #[Value.ref b] s none [] s = some (.int ((fun j => bf_PI (530 + j)) j)) := by
    intro j hj
    have h1 := bf_ck_spec _ _ 0 bf_run_KS2 j (by rw [List.length_take, List.length_drop, bf_PIlen]; omega)
    have h2 := va_eqt (hs _ (List.mem_of_mem_drop h1))
    rw [bf_PI_dt 530 256 j hj, Nat.zero_add] at h2
    exact h2
  obtain ⟨t, h1, h2⟩ := va_Tof (A := A) (tm := .static "BlowfishEngine" "KS2" "[I") (ty := .int) (N := 256) (f := fun j => .int ((fun j => bf_PI (530 + j)) j)) (Nat.le_of_ble_eq_true rfl) (hs _ bf_arr_KS2) (va_eqt (hs _ bf_len_KS2)) hel hA
  exact ⟨t, va_Zref (hts0 _ q209) (hts0 _ (lw_all_tbl q16)) h1 hA, h2⟩
theorem bf_arr_KS3 : (Cond.arrayOf (.static "BlowfishEngine" "KS3" "[I") .int) ∈ bf_L := List.mem_of_getElem? (i := 788) (by decide +kernel)
theorem bf_len_KS3 : (Cond.eq (.length (.static "BlowfishEngine" "KS3" "[I")) (.int 256)) ∈ bf_L := List.mem_of_getElem? (i := 790) (by decide +kernel)
theorem bf_tab_KS3 {b : Nat} {s : State} {A : Nat → Prop} (hts0 : ∀ w ∈ lw_tbl, w.before #[Value.ref b] s = true) (hgv : (Jvm.Cond.and given_1 narrow_1).before #[Value.ref b] s = true) (hA : ∀ a : Nat, a < s.heap.size → ¬ A a) : ∃ t : Nat, bfS "BlowfishEngine" "KS3" t 256 (fun j => bf_PI (786 + j)) A s s.heap := by
  have hs := flat_of_before _ hgv
  have hel : ∀ j : Nat, j < 256 → (Term.elem (.static "BlowfishEngine" "KS3" "[I") (.int (Int32.ofNat j))).eval #[Value.ref b] s none [] s = some (.int ((fun j => bf_PI (786 + j)) j)) := by
    intro j hj
    have h1 := bf_ck_spec _ _ 0 bf_run_KS3 j (by rw [List.length_take, List.length_drop, bf_PIlen]; omega)
    have h2 := va_eqt (hs _ (List.mem_of_mem_drop h1))
    rw [bf_PI_dt 786 256 j hj, Nat.zero_add] at h2
    exact h2
  obtain ⟨t, h1, h2⟩ := va_Tof (A := A) (tm := .static "BlowfishEngine" "KS3" "[I") (ty := .int) (N := 256) (f := fun j => .int ((fun j => bf_PI (786 + j)) j)) (Nat.le_of_ble_eq_true rfl) (hs _ bf_arr_KS3) (va_eqt (hs _ bf_len_KS3)) hel hA
  exact ⟨t, va_Zref (hts0 _ q211) (hts0 _ (lw_all_tbl q16)) h1 hA, h2⟩
theorem bf_arr_KP : (Cond.arrayOf (.static "BlowfishEngine" "KP" "[I") .int) ∈ bf_L := List.mem_of_getElem? (i := 1048) (by decide +kernel)
theorem bf_len_KP : (Cond.eq (.length (.static "BlowfishEngine" "KP" "[I")) (.int 18)) ∈ bf_L := List.mem_of_getElem? (i := 1050) (by decide +kernel)
theorem bf_tab_KP {b : Nat} {s : State} {A : Nat → Prop} (hts0 : ∀ w ∈ lw_tbl, w.before #[Value.ref b] s = true) (hgv : (Jvm.Cond.and given_1 narrow_1).before #[Value.ref b] s = true) (hA : ∀ a : Nat, a < s.heap.size → ¬ A a) : ∃ t : Nat, bfS "BlowfishEngine" "KP" t 18 bf_PI A s s.heap := by
  have hs := flat_of_before _ hgv
  have hel : ∀ j : Nat, j < 18 → (Term.elem (.static "BlowfishEngine" "KP" "[I") (.int (Int32.ofNat j))).eval #[Value.ref b] s none [] s = some (.int (bf_PI j)) := by
    intro j hj
    have h1 := bf_ck_spec _ _ 0 bf_run_KP j (by rw [List.length_take, List.length_drop, bf_PIlen]; omega)
    have h2 := va_eqt (hs _ (List.mem_of_mem_drop h1))
    rw [bf_PI_dt 0 18 j hj, Nat.zero_add] at h2
    exact h2
  obtain ⟨t, h1, h2⟩ := va_Tof (A := A) (tm := .static "BlowfishEngine" "KP" "[I") (ty := .int) (N := 18) (f := fun j => .int (bf_PI j)) (Nat.le_of_ble_eq_true rfl) (hs _ bf_arr_KP) (va_eqt (hs _ bf_len_KP)) hel hA
  exact ⟨t, va_Zref (hts0 _ q213) (hts0 _ (lw_all_tbl q16)) h1 hA, h2⟩
theorem bf_arr_PI : (Cond.arrayOf (.static "BlowfishDeskModel" "PI" "[I") .int) ∈ bf_L := List.mem_of_getElem? (i := 1070) (by decide +kernel)
theorem bf_len_PI : (Cond.eq (.length (.static "BlowfishDeskModel" "PI" "[I")) (.int 1042)) ∈ bf_L := List.mem_of_getElem? (i := 1072) (by decide +kernel)
theorem bf_tab_PI {b : Nat} {s : State} {A : Nat → Prop} (hts0 : ∀ w ∈ lw_tbl, w.before #[Value.ref b] s = true) (hgv : (Jvm.Cond.and given_1 narrow_1).before #[Value.ref b] s = true) (hA : ∀ a : Nat, a < s.heap.size → ¬ A a) : ∃ t : Nat, bfS "BlowfishDeskModel" "PI" t 1042 bf_PI A s s.heap := by
  have hs := flat_of_before _ hgv
  have hel : ∀ j : Nat, j < 1042 → (Term.elem (.static "BlowfishDeskModel" "PI" "[I") (.int (Int32.ofNat j))).eval #[Value.ref b] s none [] s = some (.int (bf_PI j)) := by
    intro j hj
    have h1 := bf_ck_spec _ _ 0 bf_run_PI j (by rw [List.length_take, List.length_drop, bf_PIlen]; omega)
    have h2 := va_eqt (hs _ (List.mem_of_mem_drop h1))
    rw [bf_PI_dt 0 1042 j hj, Nat.zero_add] at h2
    exact h2
  obtain ⟨t, h1, h2⟩ := va_Tof (A := A) (tm := .static "BlowfishDeskModel" "PI" "[I") (ty := .int) (N := 1042) (f := fun j => .int (bf_PI j)) (Nat.le_of_ble_eq_true rfl) (hs _ bf_arr_PI) (va_eqt (hs _ bf_len_PI)) hel hA
  exact ⟨t, va_Zref (hts0 _ q356) (hts0 _ (lw_all_tbl q15)) h1 hA, h2⟩
/-- an array class that the tables name -/
theorem bf_acls {args : Array Value} {s : State} {ty : FieldType} (h : (Cond.arrayClass ty).before args s = true) : ∃ cA : ClassId, ArrOfT s cA ty ∧ s.vm.findClass ("[" ++ ty.toString) = some cA := by
  obtain ⟨cA, kA, comp, h1, h2, h3⟩ := Cond.arrayClass_spec h
  exact ⟨cA, fun n z => ⟨fun k h => (by cases h), kA, h2, comp, h3⟩, h1⟩
theorem bf_cmp {L i : Nat} (hL : L ≤ 288) (hi : 6 * i ≤ 1000) : nI L - 6 < nI (6 * i) ↔ L < 6 * i + 6 := by
  rw [Int32.lt_iff_toInt_lt, show nI L - 6 = nI L - nI 6 from rfl, pk_sub_toInt (by omega) (by omega), nI_toInt (by omega)]
  omega
section BFL
variable {p : Program} {l : Launch} {e : Env} {R : Room} {s : State} {m : MethodId} {args : Array Value} {below : List Frame} {meth : Method} {c : Code} {H : Heap} {locs : List Loc} {cells slots : Nat} {Q : State → Prop}
variable {cc : ByteArray} {pc : Nat} {ls : Array Slot} {rest : List Value} {A : Nat → Prop} {H0 : Heap}
theorem bf_sld (hexec : p.tables.exec = Jvm.exec) (hb : c.code = cc) {b L : Nat} {xs : Nat → Int32} (hX : va_X b L xs s H0) (hbl : b < H0.size) (hbA : ¬ A b) (hS : va_S A H0 H locs) (hdg : decode cc pc = .ok (.iaload, 1)) {i : Int32} (k : Nat) (hi : i = nI k) (hk : k < L) (hL : L < 2 ^ 31)
    (kk : W p l e R s m args below meth c H locs cells slots Q (F0 m (pc + 1) ls (.int (xs k) :: rest))) : W p l e R s m args below meth c H locs cells slots Q (F0 m pc ls (.int i :: .ref b :: rest)) := by
  subst hi
  refine va_sld hexec hb hX hbl hbA hS (vp_in_nI hk hL) hdg ?_
  rw [nI_clamp (Nat.lt_trans hk hL)]
  exact kk
end BFL
abbrev bfI (dC : Nat → ClassId) (dI : Nat → Nat → Nat) (cB cI : ClassId) (A : Nat → Prop) (s : State) (b h0 k0 b0 o0 h1 k1 b1 o1 t1 : Nat) (i : Nat) (H : Heap) (locs : List Loc) (ls : Array Slot) : Prop := ∃ (K B O T : Nat → Int32), va_P (dC, dI) vwCl [(h0, .inr (0, [.ref k0, .ref b0, .ref o0])), (k0, .inl (cB, 32, .inl K)), (b0, .inl (cB, 8, .inl B)), (o0, .inl (cB, 8, .inl O)), (h1, .inr (1, [.ref k1, .ref b1, .ref o1, .ref t1])), (k1, .inl (cB, 32, .inl K)), (b1, .inl (cB, 8, .inl B)), (o1, .inl (cB, 8, .inl O)), (t1, .inl (cI, 1042, .inl T))] H ∧ va_D A [(h0, .inr (0, [.ref k0, .ref b0, .ref o0])), (k0, .inl (cB, 32, .inl K)), (b0, .inl (cB, 8, .inl B)), (o0, .inl (cB, 8, .inl O)), (h1, .inr (1, [.ref k1, .ref b1, .ref o1, .ref t1])), (k1, .inl (cB, 32, .inl K)), (b1, .inl (cB, 8, .inl B)), (o1, .inl (cB, 8, .inl O)), (t1, .inl (cI, 1042, .inl T))] ∧ va_S A s.heap H locs ∧ lv_has ls 4 [(0, .ref b), (1, .ref h0), (2, .ref h1), (3, .int (nI (6 * i)))]
set_option maxHeartbeats 4000000 in
set_option maxRecDepth 100000 in
theorem law_key {p : Program} {e : Env} {s : State} {m : MethodId} {below : List Frame} {meth : Method} {c : Code} (l : Launch) {b L : Nat} {xs : Nat → Int32} (hL : L ≤ 288) (C0 : lw_At p s m meth c b L xs) {dC : Nat → ClassId} {dI : Nat → Nat → Nat} {cB cI : ClassId} {tS : Nat → Nat} {A : Nat → Prop} (hA : ∀ q : Nat, s.heap.size ≤ q → A q) (hbA : ¬ A b) (hK : va_K (dC, dI) vwCl (bfT cB cI) s) (hX : bfX tS A s s.heap) {h0 k0 b0 o0 h1 k1 b1 o1 t1 : Nat} {i : Nat} (hi : i < L / 6) (ih : ∀ (H : Heap) (locs : List Loc) (ls : Array Slot), bfI dC dI cB cI A s b h0 k0 b0 o0 h1 k1 b1 o1 t1 (i + 1) H locs ls → W p l e room_1 s m #[Value.ref b] below meth c H locs (9 + 9 * (i + 1)) (1145 + 1098 * (i + 1)) (lw_Z below #[Value.ref b] s) (F0 m 18 ls [])) {H : Heap} {locs : List Loc} {ls : Array Slot} (hI : bfI dC dI cB cI A s b h0 k0 b0 o0 h1 k1 b1 o1 t1 i H locs ls) : W p l e room_1 s m #[Value.ref b] below meth c H locs (9 + 9 * i) (1145 + 1098 * i) (lw_Z below #[Value.ref b] s) (F0 m 72 ls []) := by
  obtain ⟨hx, hb, hr, hml, hown, hts0, hXs, hbl, hlocks, hgv⟩ := id C0
  have hts : ∀ w ∈ lw_all, w.before _ s = true := fun w h => hts0 w (lw_all_tbl h)
  obtain ⟨K, B, O, T, hP, hD, hS, hl⟩ := hI
  refine lv_aload_n hx hb dL_law_72 rfl (lv_at hl 1 rfl) ?_
  refine lv_aload_n hx hb dL_law_73 rfl (lv_at hl 0 rfl) ?_
  refine lv_iload_n hx hb dL_law_74 rfl (lv_at hl 3 rfl) ?_
  refine lv_iconst (v := 1) hx hb dL_law_75 (by decide) ?_
  refine lv_iadd hx hb dL_law_76 ?_
  refine bf_topE (y := nI (6 * i + 1)) (nI_add (6 * i) 1) ?_
  refine bf_sld hx hb hXs hbl hbA hS dL_law_77 (6 * i + 1) rfl (by omega) (by omega) ?_
  refine lv_aload_n hx hb dL_law_78 rfl (lv_at hl 0 rfl) ?_
  refine lv_iload_n hx hb dL_law_79 rfl (lv_at hl 3 rfl) ?_
  refine lv_iconst (v := 2) hx hb dL_law_80 (by decide) ?_
  refine lv_iadd hx hb dL_law_81 ?_
  refine bf_topE (y := nI (6 * i + 2)) (nI_add (6 * i) 2) ?_
  refine bf_sld hx hb hXs hbl hbA hS dL_law_82 (6 * i + 2) rfl (by omega) (by omega) ?_
  refine lv_aload_n hx hb dL_law_83 rfl (lv_at hl 0 rfl) ?_
  refine lv_iload_n hx hb dL_law_84 rfl (lv_at hl 3 rfl) ?_
  refine lv_iconst (v := 3) hx hb dL_law_85 (by decide) ?_
  refine lv_iadd hx hb dL_law_86 ?_
  refine bf_topE (y := nI (6 * i + 3)) (nI_add (6 * i) 3) ?_
  refine bf_sld hx hb hXs hbl hbA hS dL_law_87 (6 * i + 3) rfl (by omega) (by omega) ?_
  refine lv_aload_n hx hb dL_law_88 rfl (lv_at hl 0 rfl) ?_
  refine lv_iload_n hx hb dL_law_89 rfl (lv_at hl 3 rfl) ?_
  refine lv_iconst (v := 4) hx hb dL_law_90 (by decide) ?_
  refine lv_iadd hx hb dL_law_91 ?_
  refine bf_topE (y := nI (6 * i + 4)) (nI_add (6 * i) 4) ?_
  refine bf_sld hx hb hXs hbl hbA hS dL_law_92 (6 * i + 4) rfl (by omega) (by omega) ?_
  refine lv_aload_n hx hb dL_law_93 rfl (lv_at hl 0 rfl) ?_
  refine lv_iload_n hx hb dL_law_94 rfl (lv_at hl 3 rfl) ?_
  refine lv_iconst (v := 5) hx hb dL_law_95 (by decide) ?_
  refine lv_iadd hx hb dL_law_96 ?_
  refine bf_topE (y := nI (6 * i + 5)) (nI_add (6 * i) 5) ?_
  refine bf_sld hx hb hXs hbl hbA hS dL_law_97 (6 * i + 5) rfl (by omega) (by omega) ?_
  refine bf_callv (wr := [(b0, .inl (cB, 8, .inl B)), (o0, .inl (cB, 8, .inl O)), (h1, .inr (1, [.ref k1, .ref b1, .ref o1, .ref t1])), (k1, .inl (cB, 32, .inl K)), (b1, .inl (cB, 8, .inl B)), (o1, .inl (cB, 8, .inl O)), (t1, .inl (cI, 1042, .inl T))]) (va_runV (As := [.int (xs (6 * i + 1)), .int (xs (6 * i + 2)), .int (xs (6 * i + 3)), .int (xs (6 * i + 4)), .int (xs (6 * i + 5))]) (rest := []) ⟨hx, hb, hml, hown, hts⟩ (met_X0_key l dC dI cB cI H.size h0 k0 b0 o0 K B O (xs (6 * i + 1)) (xs (6 * i + 2)) (xs (6 * i + 3)) (xs (6 * i + 4)) (xs (6 * i + 5))) (cwV 5 hts (lw_V q46 q47 q48 q14 q49) rfl rfl rfl (by decide +kernel) ⟨Nat.le_of_ble_eq_true rfl, Nat.le_of_ble_eq_true rfl⟩) (bf_preV hK hP hD [0, 1] (by decide) rfl (ci := 0) (q0 := 0) rfl rfl) rfl rfl hl.1 rfl (lv_room (Nat.le_of_ble_eq_true rfl)) dL_law_98 ⟨by show 9 + 9 * i + 0 ≤ 600096; omega, by show 1145 + 1098 * i + 0 ≤ 7301386; omega⟩) hP hD hS hA [0, 1] [2, 3, 4, 5, 6, 7, 8] rfl rfl (by decide) (by decide) (fun _ H locs hP hD hS => ?_)
  have hP : va_P (dC, dI) vwCl [(b0, .inl (cB, 8, .inl B)), (o0, .inl (cB, 8, .inl O)), (h1, .inr (1, [.ref k1, .ref b1, .ref o1, .ref t1])), (k1, .inl (cB, 32, .inl K)), (b1, .inl (cB, 8, .inl B)), (o1, .inl (cB, 8, .inl O)), (t1, .inl (cI, 1042, .inl T)), (h0, .inr (0, [.ref k0, .ref b0, .ref o0])), (k0, .inl (cB, 32, .inl (bf_key K (xs (6 * i + 1)) (xs (6 * i + 2)) (xs (6 * i + 3)) (xs (6 * i + 4)) (xs (6 * i + 5)))))] H := hP
  have hD : va_D A [(b0, .inl (cB, 8, .inl B)), (o0, .inl (cB, 8, .inl O)), (h1, .inr (1, [.ref k1, .ref b1, .ref o1, .ref t1])), (k1, .inl (cB, 32, .inl K)), (b1, .inl (cB, 8, .inl B)), (o1, .inl (cB, 8, .inl O)), (t1, .inl (cI, 1042, .inl T)), (h0, .inr (0, [.ref k0, .ref b0, .ref o0])), (k0, .inl (cB, 32, .inl (bf_key K (xs (6 * i + 1)) (xs (6 * i + 2)) (xs (6 * i + 3)) (xs (6 * i + 4)) (xs (6 * i + 5)))))] := hD
  refine lv_aload_n hx hb dL_law_101 rfl (lv_at hl 2 rfl) ?_
  refine lv_aload_n hx hb dL_law_102 rfl (lv_at hl 0 rfl) ?_
  refine lv_iload_n hx hb dL_law_103 rfl (lv_at hl 3 rfl) ?_
  refine lv_iconst (v := 1) hx hb dL_law_104 (by decide) ?_
  refine lv_iadd hx hb dL_law_105 ?_
  refine bf_topE (y := nI (6 * i + 1)) (nI_add (6 * i) 1) ?_
  refine bf_sld hx hb hXs hbl hbA hS dL_law_106 (6 * i + 1) rfl (by omega) (by omega) ?_
  refine lv_aload_n hx hb dL_law_107 rfl (lv_at hl 0 rfl) ?_
  refine lv_iload_n hx hb dL_law_108 rfl (lv_at hl 3 rfl) ?_
  refine lv_iconst (v := 2) hx hb dL_law_109 (by decide) ?_
  refine lv_iadd hx hb dL_law_110 ?_
  refine bf_topE (y := nI (6 * i + 2)) (nI_add (6 * i) 2) ?_
  refine bf_sld hx hb hXs hbl hbA hS dL_law_111 (6 * i + 2) rfl (by omega) (by omega) ?_
  refine lv_aload_n hx hb dL_law_112 rfl (lv_at hl 0 rfl) ?_
  refine lv_iload_n hx hb dL_law_113 rfl (lv_at hl 3 rfl) ?_
  refine lv_iconst (v := 3) hx hb dL_law_114 (by decide) ?_
  refine lv_iadd hx hb dL_law_115 ?_
  refine bf_topE (y := nI (6 * i + 3)) (nI_add (6 * i) 3) ?_
  refine bf_sld hx hb hXs hbl hbA hS dL_law_116 (6 * i + 3) rfl (by omega) (by omega) ?_
  refine lv_aload_n hx hb dL_law_117 rfl (lv_at hl 0 rfl) ?_
  refine lv_iload_n hx hb dL_law_118 rfl (lv_at hl 3 rfl) ?_
  refine lv_iconst (v := 4) hx hb dL_law_119 (by decide) ?_
  refine lv_iadd hx hb dL_law_120 ?_
  refine bf_topE (y := nI (6 * i + 4)) (nI_add (6 * i) 4) ?_
  refine bf_sld hx hb hXs hbl hbA hS dL_law_121 (6 * i + 4) rfl (by omega) (by omega) ?_
  refine lv_aload_n hx hb dL_law_122 rfl (lv_at hl 0 rfl) ?_
  refine lv_iload_n hx hb dL_law_123 rfl (lv_at hl 3 rfl) ?_
  refine lv_iconst (v := 5) hx hb dL_law_124 (by decide) ?_
  refine lv_iadd hx hb dL_law_125 ?_
  refine bf_topE (y := nI (6 * i + 5)) (nI_add (6 * i) 5) ?_
  refine bf_sld hx hb hXs hbl hbA hS dL_law_126 (6 * i + 5) rfl (by omega) (by omega) ?_
  refine bf_callv (wr := [(b0, .inl (cB, 8, .inl B)), (o0, .inl (cB, 8, .inl O)), (b1, .inl (cB, 8, .inl B)), (o1, .inl (cB, 8, .inl O)), (t1, .inl (cI, 1042, .inl T)), (h0, .inr (0, [.ref k0, .ref b0, .ref o0])), (k0, .inl (cB, 32, .inl (bf_key K (xs (6 * i + 1)) (xs (6 * i + 2)) (xs (6 * i + 3)) (xs (6 * i + 4)) (xs (6 * i + 5)))))]) (va_runV (As := [.int (xs (6 * i + 1)), .int (xs (6 * i + 2)), .int (xs (6 * i + 3)), .int (xs (6 * i + 4)), .int (xs (6 * i + 5))]) (rest := []) ⟨hx, hb, hml, hown, hts⟩ (met_X1_key l dC dI cB cI H.size h1 k1 b1 o1 t1 K B O T (xs (6 * i + 1)) (xs (6 * i + 2)) (xs (6 * i + 3)) (xs (6 * i + 4)) (xs (6 * i + 5))) (cwV 5 hts (lw_V q332 q333 q334 q15 q335) rfl rfl rfl (by decide +kernel) ⟨Nat.le_of_ble_eq_true rfl, Nat.le_of_ble_eq_true rfl⟩) (bf_preV hK hP hD [2, 3] (by decide) rfl (ci := 1) (q0 := 2) rfl rfl) rfl rfl hl.1 rfl (lv_room (Nat.le_of_ble_eq_true rfl)) dL_law_127 ⟨by show 9 + 9 * i + 0 + 0 ≤ 600096; omega, by show 1145 + 1098 * i + 0 + 0 ≤ 7301386; omega⟩) hP hD hS hA [2, 3] [0, 1, 4, 5, 6, 7, 8] rfl rfl (by decide) (by decide) (fun _ H locs hP hD hS => ?_)
  have hP : va_P (dC, dI) vwCl [(b0, .inl (cB, 8, .inl B)), (o0, .inl (cB, 8, .inl O)), (b1, .inl (cB, 8, .inl B)), (o1, .inl (cB, 8, .inl O)), (t1, .inl (cI, 1042, .inl T)), (h0, .inr (0, [.ref k0, .ref b0, .ref o0])), (k0, .inl (cB, 32, .inl (bf_key K (xs (6 * i + 1)) (xs (6 * i + 2)) (xs (6 * i + 3)) (xs (6 * i + 4)) (xs (6 * i + 5))))), (h1, .inr (1, [.ref k1, .ref b1, .ref o1, .ref t1])), (k1, .inl (cB, 32, .inl (bf_key K (xs (6 * i + 1)) (xs (6 * i + 2)) (xs (6 * i + 3)) (xs (6 * i + 4)) (xs (6 * i + 5)))))] H := hP
  have hD : va_D A [(b0, .inl (cB, 8, .inl B)), (o0, .inl (cB, 8, .inl O)), (b1, .inl (cB, 8, .inl B)), (o1, .inl (cB, 8, .inl O)), (t1, .inl (cI, 1042, .inl T)), (h0, .inr (0, [.ref k0, .ref b0, .ref o0])), (k0, .inl (cB, 32, .inl (bf_key K (xs (6 * i + 1)) (xs (6 * i + 2)) (xs (6 * i + 3)) (xs (6 * i + 4)) (xs (6 * i + 5))))), (h1, .inr (1, [.ref k1, .ref b1, .ref o1, .ref t1])), (k1, .inl (cB, 32, .inl (bf_key K (xs (6 * i + 1)) (xs (6 * i + 2)) (xs (6 * i + 3)) (xs (6 * i + 4)) (xs (6 * i + 5)))))] := hD
  refine lv_goto (tgt := 240) hx hb dL_law_130 (by decide) ?_
  refine lv_iinc (v := nI (6 * (i + 1))) (lv' := [(3, .int (nI (6 * (i + 1)))), (0, .ref b), (1, .ref h0), (2, .ref h1)]) hx hb dL_law_240 hl (k := 3) rfl (by rw [show 6 * (i + 1) = 6 * i + 6 by omega]; exact nI_add (6 * i) 6) (by decide) rfl (fun ls hl => ?_)
  refine lv_goto (tgt := 18) hx hb dL_law_243 (by decide) ?_
  refine W.widen (k := 9 + 9 * (i + 1)) (n := 1145 + 1098 * (i + 1)) (by omega) (by omega) ?_
  exact ih H locs ls ⟨(bf_key K (xs (6 * i + 1)) (xs (6 * i + 2)) (xs (6 * i + 3)) (xs (6 * i + 4)) (xs (6 * i + 5))), B, O, T, hP.sub [5, 6, 0, 1, 7, 8, 2, 3, 4] rfl, hD.sub [5, 6, 0, 1, 7, 8, 2, 3, 4] (by decide) rfl, hS, lv_sub hl [1, 2, 3, 0] rfl⟩
set_option maxHeartbeats 4000000 in
set_option maxRecDepth 100000 in
theorem law_block {p : Program} {e : Env} {s : State} {m : MethodId} {below : List Frame} {meth : Method} {c : Code} (l : Launch) {b L : Nat} {xs : Nat → Int32} (hL : L ≤ 288) (C0 : lw_At p s m meth c b L xs) {dC : Nat → ClassId} {dI : Nat → Nat → Nat} {cB cI : ClassId} {tS : Nat → Nat} {A : Nat → Prop} (hA : ∀ q : Nat, s.heap.size ≤ q → A q) (hbA : ¬ A b) (hK : va_K (dC, dI) vwCl (bfT cB cI) s) (hX : bfX tS A s s.heap) {h0 k0 b0 o0 h1 k1 b1 o1 t1 : Nat} {i : Nat} (hi : i < L / 6) (ih : ∀ (H : Heap) (locs : List Loc) (ls : Array Slot), bfI dC dI cB cI A s b h0 k0 b0 o0 h1 k1 b1 o1 t1 (i + 1) H locs ls → W p l e room_1 s m #[Value.ref b] below meth c H locs (9 + 9 * (i + 1)) (1145 + 1098 * (i + 1)) (lw_Z below #[Value.ref b] s) (F0 m 18 ls [])) {H : Heap} {locs : List Loc} {ls : Array Slot} (hI : bfI dC dI cB cI A s b h0 k0 b0 o0 h1 k1 b1 o1 t1 i H locs ls) : W p l e room_1 s m #[Value.ref b] below meth c H locs (9 + 9 * i) (1145 + 1098 * i) (lw_Z below #[Value.ref b] s) (F0 m 133 ls []) := by
  obtain ⟨hx, hb, hr, hml, hown, hts0, hXs, hbl, hlocks, hgv⟩ := id C0
  have hts : ∀ w ∈ lw_all, w.before _ s = true := fun w h => hts0 w (lw_all_tbl h)
  obtain ⟨K, B, O, T, hP, hD, hS, hl⟩ := hI
  refine lv_aload_n hx hb dL_law_133 rfl (lv_at hl 1 rfl) ?_
  refine lv_aload_n hx hb dL_law_134 rfl (lv_at hl 0 rfl) ?_
  refine lv_iload_n hx hb dL_law_135 rfl (lv_at hl 3 rfl) ?_
  refine lv_iconst (v := 1) hx hb dL_law_136 (by decide) ?_
  refine lv_iadd hx hb dL_law_137 ?_
  refine bf_topE (y := nI (6 * i + 1)) (nI_add (6 * i) 1) ?_
  refine bf_sld hx hb hXs hbl hbA hS dL_law_138 (6 * i + 1) rfl (by omega) (by omega) ?_
  refine lv_aload_n hx hb dL_law_139 rfl (lv_at hl 0 rfl) ?_
  refine lv_iload_n hx hb dL_law_140 rfl (lv_at hl 3 rfl) ?_
  refine lv_iconst (v := 2) hx hb dL_law_141 (by decide) ?_
  refine lv_iadd hx hb dL_law_142 ?_
  refine bf_topE (y := nI (6 * i + 2)) (nI_add (6 * i) 2) ?_
  refine bf_sld hx hb hXs hbl hbA hS dL_law_143 (6 * i + 2) rfl (by omega) (by omega) ?_
  refine bf_callv (wr := [(k0, .inl (cB, 32, .inl K)), (o0, .inl (cB, 8, .inl O)), (h1, .inr (1, [.ref k1, .ref b1, .ref o1, .ref t1])), (k1, .inl (cB, 32, .inl K)), (b1, .inl (cB, 8, .inl B)), (o1, .inl (cB, 8, .inl O)), (t1, .inl (cI, 1042, .inl T))]) (va_runV (As := [.int (xs (6 * i + 1)), .int (xs (6 * i + 2))]) (rest := []) ⟨hx, hb, hml, hown, hts⟩ (met_X0_block l dC dI cB cI H.size h0 k0 b0 o0 K B O (xs (6 * i + 1)) (xs (6 * i + 2))) (cwV 2 hts (lw_V q53 q54 q55 q14 q56) rfl rfl rfl (by decide +kernel) ⟨Nat.le_of_ble_eq_true rfl, Nat.le_of_ble_eq_true rfl⟩) (bf_preV hK hP hD [0, 2] (by decide) rfl (ci := 0) (q0 := 0) rfl rfl) rfl rfl hl.1 rfl (lv_room (Nat.le_of_ble_eq_true rfl)) dL_law_144 ⟨by show 9 + 9 * i + 0 ≤ 600096; omega, by show 1145 + 1098 * i + 0 ≤ 7301386; omega⟩) hP hD hS hA [0, 2] [1, 3, 4, 5, 6, 7, 8] rfl rfl (by decide) (by decide) (fun _ H locs hP hD hS => ?_)
  have hP : va_P (dC, dI) vwCl [(k0, .inl (cB, 32, .inl K)), (o0, .inl (cB, 8, .inl O)), (h1, .inr (1, [.ref k1, .ref b1, .ref o1, .ref t1])), (k1, .inl (cB, 32, .inl K)), (b1, .inl (cB, 8, .inl B)), (o1, .inl (cB, 8, .inl O)), (t1, .inl (cI, 1042, .inl T)), (h0, .inr (0, [.ref k0, .ref b0, .ref o0])), (b0, .inl (cB, 8, .inl (bf_put (bf_put B 0 (xs (6 * i + 1))) 4 (xs (6 * i + 2)))))] H := hP
  have hD : va_D A [(k0, .inl (cB, 32, .inl K)), (o0, .inl (cB, 8, .inl O)), (h1, .inr (1, [.ref k1, .ref b1, .ref o1, .ref t1])), (k1, .inl (cB, 32, .inl K)), (b1, .inl (cB, 8, .inl B)), (o1, .inl (cB, 8, .inl O)), (t1, .inl (cI, 1042, .inl T)), (h0, .inr (0, [.ref k0, .ref b0, .ref o0])), (b0, .inl (cB, 8, .inl (bf_put (bf_put B 0 (xs (6 * i + 1))) 4 (xs (6 * i + 2)))))] := hD
  refine lv_aload_n hx hb dL_law_147 rfl (lv_at hl 2 rfl) ?_
  refine lv_aload_n hx hb dL_law_148 rfl (lv_at hl 0 rfl) ?_
  refine lv_iload_n hx hb dL_law_149 rfl (lv_at hl 3 rfl) ?_
  refine lv_iconst (v := 1) hx hb dL_law_150 (by decide) ?_
  refine lv_iadd hx hb dL_law_151 ?_
  refine bf_topE (y := nI (6 * i + 1)) (nI_add (6 * i) 1) ?_
  refine bf_sld hx hb hXs hbl hbA hS dL_law_152 (6 * i + 1) rfl (by omega) (by omega) ?_
  refine lv_aload_n hx hb dL_law_153 rfl (lv_at hl 0 rfl) ?_
  refine lv_iload_n hx hb dL_law_154 rfl (lv_at hl 3 rfl) ?_
  refine lv_iconst (v := 2) hx hb dL_law_155 (by decide) ?_
  refine lv_iadd hx hb dL_law_156 ?_
  refine bf_topE (y := nI (6 * i + 2)) (nI_add (6 * i) 2) ?_
  refine bf_sld hx hb hXs hbl hbA hS dL_law_157 (6 * i + 2) rfl (by omega) (by omega) ?_
  refine bf_callv (wr := [(k0, .inl (cB, 32, .inl K)), (o0, .inl (cB, 8, .inl O)), (k1, .inl (cB, 32, .inl K)), (o1, .inl (cB, 8, .inl O)), (t1, .inl (cI, 1042, .inl T)), (h0, .inr (0, [.ref k0, .ref b0, .ref o0])), (b0, .inl (cB, 8, .inl (bf_put (bf_put B 0 (xs (6 * i + 1))) 4 (xs (6 * i + 2)))))]) (va_runV (As := [.int (xs (6 * i + 1)), .int (xs (6 * i + 2))]) (rest := []) ⟨hx, hb, hml, hown, hts⟩ (met_X1_block l dC dI cB cI H.size h1 k1 b1 o1 t1 K B O T (xs (6 * i + 1)) (xs (6 * i + 2))) (cwV 2 hts (lw_V q339 q340 q341 q15 q342) rfl rfl rfl (by decide +kernel) ⟨Nat.le_of_ble_eq_true rfl, Nat.le_of_ble_eq_true rfl⟩) (bf_preV hK hP hD [2, 4] (by decide) rfl (ci := 1) (q0 := 2) rfl rfl) rfl rfl hl.1 rfl (lv_room (Nat.le_of_ble_eq_true rfl)) dL_law_158 ⟨by show 9 + 9 * i + 0 + 0 ≤ 600096; omega, by show 1145 + 1098 * i + 0 + 0 ≤ 7301386; omega⟩) hP hD hS hA [2, 4] [0, 1, 3, 5, 6, 7, 8] rfl rfl (by decide) (by decide) (fun _ H locs hP hD hS => ?_)
  have hP : va_P (dC, dI) vwCl [(k0, .inl (cB, 32, .inl K)), (o0, .inl (cB, 8, .inl O)), (k1, .inl (cB, 32, .inl K)), (o1, .inl (cB, 8, .inl O)), (t1, .inl (cI, 1042, .inl T)), (h0, .inr (0, [.ref k0, .ref b0, .ref o0])), (b0, .inl (cB, 8, .inl (bf_put (bf_put B 0 (xs (6 * i + 1))) 4 (xs (6 * i + 2))))), (h1, .inr (1, [.ref k1, .ref b1, .ref o1, .ref t1])), (b1, .inl (cB, 8, .inl (bf_put (bf_put B 0 (xs (6 * i + 1))) 4 (xs (6 * i + 2)))))] H := hP
  have hD : va_D A [(k0, .inl (cB, 32, .inl K)), (o0, .inl (cB, 8, .inl O)), (k1, .inl (cB, 32, .inl K)), (o1, .inl (cB, 8, .inl O)), (t1, .inl (cI, 1042, .inl T)), (h0, .inr (0, [.ref k0, .ref b0, .ref o0])), (b0, .inl (cB, 8, .inl (bf_put (bf_put B 0 (xs (6 * i + 1))) 4 (xs (6 * i + 2))))), (h1, .inr (1, [.ref k1, .ref b1, .ref o1, .ref t1])), (b1, .inl (cB, 8, .inl (bf_put (bf_put B 0 (xs (6 * i + 1))) 4 (xs (6 * i + 2)))))] := hD
  refine lv_goto (tgt := 240) hx hb dL_law_161 (by decide) ?_
  refine lv_iinc (v := nI (6 * (i + 1))) (lv' := [(3, .int (nI (6 * (i + 1)))), (0, .ref b), (1, .ref h0), (2, .ref h1)]) hx hb dL_law_240 hl (k := 3) rfl (by rw [show 6 * (i + 1) = 6 * i + 6 by omega]; exact nI_add (6 * i) 6) (by decide) rfl (fun ls hl => ?_)
  refine lv_goto (tgt := 18) hx hb dL_law_243 (by decide) ?_
  refine W.widen (k := 9 + 9 * (i + 1)) (n := 1145 + 1098 * (i + 1)) (by omega) (by omega) ?_
  exact ih H locs ls ⟨K, (bf_put (bf_put B 0 (xs (6 * i + 1))) 4 (xs (6 * i + 2))), O, T, hP.sub [5, 0, 6, 1, 7, 2, 8, 3, 4] rfl, hD.sub [5, 0, 6, 1, 7, 2, 8, 3, 4] (by decide) rfl, hS, lv_sub hl [1, 2, 3, 0] rfl⟩
set_option maxHeartbeats 4000000 in
set_option maxRecDepth 100000 in
theorem law_lock {p : Program} {e : Env} {s : State} {m : MethodId} {below : List Frame} {meth : Method} {c : Code} (l : Launch) {b L : Nat} {xs : Nat → Int32} (hL : L ≤ 288) (C0 : lw_At p s m meth c b L xs) {dC : Nat → ClassId} {dI : Nat → Nat → Nat} {cB cI : ClassId} {tS : Nat → Nat} {A : Nat → Prop} (hA : ∀ q : Nat, s.heap.size ≤ q → A q) (hbA : ¬ A b) (hK : va_K (dC, dI) vwCl (bfT cB cI) s) (hX : bfX tS A s s.heap) {h0 k0 b0 o0 h1 k1 b1 o1 t1 : Nat} {i : Nat} (hi : i < L / 6) (ih : ∀ (H : Heap) (locs : List Loc) (ls : Array Slot), bfI dC dI cB cI A s b h0 k0 b0 o0 h1 k1 b1 o1 t1 (i + 1) H locs ls → W p l e room_1 s m #[Value.ref b] below meth c H locs (9 + 9 * (i + 1)) (1145 + 1098 * (i + 1)) (lw_Z below #[Value.ref b] s) (F0 m 18 ls [])) {H : Heap} {locs : List Loc} {ls : Array Slot} (hI : bfI dC dI cB cI A s b h0 k0 b0 o0 h1 k1 b1 o1 t1 i H locs ls) : W p l e room_1 s m #[Value.ref b] below meth c H locs (9 + 9 * i) (1145 + 1098 * i) (lw_Z below #[Value.ref b] s) (F0 m 164 ls []) := by
  obtain ⟨hx, hb, hr, hml, hown, hts0, hXs, hbl, hlocks, hgv⟩ := id C0
  have hts : ∀ w ∈ lw_all, w.before _ s = true := fun w h => hts0 w (lw_all_tbl h)
  obtain ⟨K, B, O, T, hP, hD, hS, hl⟩ := hI
  refine lv_aload_n hx hb dL_law_164 rfl (lv_at hl 1 rfl) ?_
  refine lv_aload_n hx hb dL_law_165 rfl (lv_at hl 0 rfl) ?_
  refine lv_iload_n hx hb dL_law_166 rfl (lv_at hl 3 rfl) ?_
  refine lv_iconst (v := 1) hx hb dL_law_167 (by decide) ?_
  refine lv_iadd hx hb dL_law_168 ?_
  refine bf_topE (y := nI (6 * i + 1)) (nI_add (6 * i) 1) ?_
  refine bf_sld hx hb hXs hbl hbA hS dL_law_169 (6 * i + 1) rfl (by omega) (by omega) ?_
  refine bf_callv (wr := [(h1, .inr (1, [.ref k1, .ref b1, .ref o1, .ref t1])), (k1, .inl (cB, 32, .inl K)), (b1, .inl (cB, 8, .inl B)), (o1, .inl (cB, 8, .inl O)), (t1, .inl (cI, 1042, .inl T))]) (va_runV (As := [.int (xs (6 * i + 1))]) (rest := []) ⟨hx, hb, hml, hown, hts⟩ (met_X0_lock l dC dI cB cI tS H.size h0 k0 b0 o0 K B O (xs (6 * i + 1))) (cwV 1 hts (lw_V q57 q58 q59 q14 q60) rfl rfl rfl (by decide +kernel) ⟨Nat.le_of_ble_eq_true rfl, Nat.le_of_ble_eq_true rfl⟩) (bf_preVX hK hP hD [0, 1, 2, 3] (by decide) rfl (ci := 0) (q0 := 0) rfl rfl hX hS hA) rfl rfl hl.1 rfl (lv_room (Nat.le_of_ble_eq_true rfl)) dL_law_170 ⟨by show 9 + 9 * i + 9 ≤ 600096; omega, by show 1145 + 1098 * i + 1098 ≤ 7301386; omega⟩) hP hD hS hA [0, 1, 2, 3] [4, 5, 6, 7, 8] rfl rfl (by decide) (by decide) (fun _ H locs hP hD hS => ?_)
  have hP : va_P (dC, dI) vwCl [(h1, .inr (1, [.ref k1, .ref b1, .ref o1, .ref t1])), (k1, .inl (cB, 32, .inl K)), (b1, .inl (cB, 8, .inl B)), (o1, .inl (cB, 8, .inl O)), (t1, .inl (cI, 1042, .inl T)), (h0, .inr (0, [.ref k0, .ref b0, .ref o0])), (k0, .inl (cB, 32, .inl K)), (b0, .inl (cB, 8, .inl B)), (o0, .inl (cB, 8, .inl (bf_out bf_PI K B O (bf_n (xs (6 * i + 1))) true)))] H := hP
  have hD : va_D A [(h1, .inr (1, [.ref k1, .ref b1, .ref o1, .ref t1])), (k1, .inl (cB, 32, .inl K)), (b1, .inl (cB, 8, .inl B)), (o1, .inl (cB, 8, .inl O)), (t1, .inl (cI, 1042, .inl T)), (h0, .inr (0, [.ref k0, .ref b0, .ref o0])), (k0, .inl (cB, 32, .inl K)), (b0, .inl (cB, 8, .inl B)), (o0, .inl (cB, 8, .inl (bf_out bf_PI K B O (bf_n (xs (6 * i + 1))) true)))] := hD
  refine lv_aload_n hx hb dL_law_173 rfl (lv_at hl 2 rfl) ?_
  refine lv_aload_n hx hb dL_law_174 rfl (lv_at hl 0 rfl) ?_
  refine lv_iload_n hx hb dL_law_175 rfl (lv_at hl 3 rfl) ?_
  refine lv_iconst (v := 1) hx hb dL_law_176 (by decide) ?_
  refine lv_iadd hx hb dL_law_177 ?_
  refine bf_topE (y := nI (6 * i + 1)) (nI_add (6 * i) 1) ?_
  refine bf_sld hx hb hXs hbl hbA hS dL_law_178 (6 * i + 1) rfl (by omega) (by omega) ?_
  refine bf_callv (wr := [(h0, .inr (0, [.ref k0, .ref b0, .ref o0])), (k0, .inl (cB, 32, .inl K)), (b0, .inl (cB, 8, .inl B)), (o0, .inl (cB, 8, .inl (bf_out bf_PI K B O (bf_n (xs (6 * i + 1))) true)))]) (va_runV (As := [.int (xs (6 * i + 1))]) (rest := []) ⟨hx, hb, hml, hown, hts⟩ (met_X1_lock l dC dI cB cI tS H.size h1 k1 b1 o1 t1 K B O T (xs (6 * i + 1))) (cwV 1 hts (lw_V q343 q344 q345 q15 q346) rfl rfl rfl (by decide +kernel) ⟨Nat.le_of_ble_eq_true rfl, Nat.le_of_ble_eq_true rfl⟩) (bf_preVX hK hP hD [0, 1, 2, 3, 4] (by decide) rfl (ci := 1) (q0 := 0) rfl rfl hX hS hA) rfl rfl hl.1 rfl (lv_room (Nat.le_of_ble_eq_true rfl)) dL_law_179 ⟨by show 9 + 9 * i + 9 + 0 ≤ 600096; omega, by show 1145 + 1098 * i + 1098 + 0 ≤ 7301386; omega⟩) hP hD hS hA [0, 1, 2, 3, 4] [5, 6, 7, 8] rfl rfl (by decide) (by decide) (fun _ H locs hP hD hS => ?_)
  have hP : va_P (dC, dI) vwCl [(h0, .inr (0, [.ref k0, .ref b0, .ref o0])), (k0, .inl (cB, 32, .inl K)), (b0, .inl (cB, 8, .inl B)), (o0, .inl (cB, 8, .inl (bf_out bf_PI K B O (bf_n (xs (6 * i + 1))) true))), (h1, .inr (1, [.ref k1, .ref b1, .ref o1, .ref t1])), (k1, .inl (cB, 32, .inl K)), (b1, .inl (cB, 8, .inl B)), (o1, .inl (cB, 8, .inl (bf_out bf_PI K B O (bf_n (xs (6 * i + 1))) true))), (t1, .inl (cI, 1042, .inl (bf_sch bf_PI K (bf_n (xs (6 * i + 1))))))] H := hP
  have hD : va_D A [(h0, .inr (0, [.ref k0, .ref b0, .ref o0])), (k0, .inl (cB, 32, .inl K)), (b0, .inl (cB, 8, .inl B)), (o0, .inl (cB, 8, .inl (bf_out bf_PI K B O (bf_n (xs (6 * i + 1))) true))), (h1, .inr (1, [.ref k1, .ref b1, .ref o1, .ref t1])), (k1, .inl (cB, 32, .inl K)), (b1, .inl (cB, 8, .inl B)), (o1, .inl (cB, 8, .inl (bf_out bf_PI K B O (bf_n (xs (6 * i + 1))) true))), (t1, .inl (cI, 1042, .inl (bf_sch bf_PI K (bf_n (xs (6 * i + 1))))))] := hD
  refine lv_goto (tgt := 240) hx hb dL_law_182 (by decide) ?_
  refine lv_iinc (v := nI (6 * (i + 1))) (lv' := [(3, .int (nI (6 * (i + 1)))), (0, .ref b), (1, .ref h0), (2, .ref h1)]) hx hb dL_law_240 hl (k := 3) rfl (by rw [show 6 * (i + 1) = 6 * i + 6 by omega]; exact nI_add (6 * i) 6) (by decide) rfl (fun ls hl => ?_)
  refine lv_goto (tgt := 18) hx hb dL_law_243 (by decide) ?_
  refine W.widen (k := 9 + 9 * (i + 1)) (n := 1145 + 1098 * (i + 1)) (by omega) (by omega) ?_
  exact ih H locs ls ⟨K, B, (bf_out bf_PI K B O (bf_n (xs (6 * i + 1))) true), (bf_sch bf_PI K (bf_n (xs (6 * i + 1)))), hP.sub [0, 1, 2, 3, 4, 5, 6, 7, 8] rfl, hD.sub [0, 1, 2, 3, 4, 5, 6, 7, 8] (by decide) rfl, hS, lv_sub hl [1, 2, 3, 0] rfl⟩
set_option maxHeartbeats 4000000 in
set_option maxRecDepth 100000 in
theorem law_open {p : Program} {e : Env} {s : State} {m : MethodId} {below : List Frame} {meth : Method} {c : Code} (l : Launch) {b L : Nat} {xs : Nat → Int32} (hL : L ≤ 288) (C0 : lw_At p s m meth c b L xs) {dC : Nat → ClassId} {dI : Nat → Nat → Nat} {cB cI : ClassId} {tS : Nat → Nat} {A : Nat → Prop} (hA : ∀ q : Nat, s.heap.size ≤ q → A q) (hbA : ¬ A b) (hK : va_K (dC, dI) vwCl (bfT cB cI) s) (hX : bfX tS A s s.heap) {h0 k0 b0 o0 h1 k1 b1 o1 t1 : Nat} {i : Nat} (hi : i < L / 6) (ih : ∀ (H : Heap) (locs : List Loc) (ls : Array Slot), bfI dC dI cB cI A s b h0 k0 b0 o0 h1 k1 b1 o1 t1 (i + 1) H locs ls → W p l e room_1 s m #[Value.ref b] below meth c H locs (9 + 9 * (i + 1)) (1145 + 1098 * (i + 1)) (lw_Z below #[Value.ref b] s) (F0 m 18 ls [])) {H : Heap} {locs : List Loc} {ls : Array Slot} (hI : bfI dC dI cB cI A s b h0 k0 b0 o0 h1 k1 b1 o1 t1 i H locs ls) : W p l e room_1 s m #[Value.ref b] below meth c H locs (9 + 9 * i) (1145 + 1098 * i) (lw_Z below #[Value.ref b] s) (F0 m 185 ls []) := by
  obtain ⟨hx, hb, hr, hml, hown, hts0, hXs, hbl, hlocks, hgv⟩ := id C0
  have hts : ∀ w ∈ lw_all, w.before _ s = true := fun w h => hts0 w (lw_all_tbl h)
  obtain ⟨K, B, O, T, hP, hD, hS, hl⟩ := hI
  refine lv_aload_n hx hb dL_law_185 rfl (lv_at hl 1 rfl) ?_
  refine lv_aload_n hx hb dL_law_186 rfl (lv_at hl 0 rfl) ?_
  refine lv_iload_n hx hb dL_law_187 rfl (lv_at hl 3 rfl) ?_
  refine lv_iconst (v := 1) hx hb dL_law_188 (by decide) ?_
  refine lv_iadd hx hb dL_law_189 ?_
  refine bf_topE (y := nI (6 * i + 1)) (nI_add (6 * i) 1) ?_
  refine bf_sld hx hb hXs hbl hbA hS dL_law_190 (6 * i + 1) rfl (by omega) (by omega) ?_
  refine bf_callv (wr := [(h1, .inr (1, [.ref k1, .ref b1, .ref o1, .ref t1])), (k1, .inl (cB, 32, .inl K)), (b1, .inl (cB, 8, .inl B)), (o1, .inl (cB, 8, .inl O)), (t1, .inl (cI, 1042, .inl T))]) (va_runV (As := [.int (xs (6 * i + 1))]) (rest := []) ⟨hx, hb, hml, hown, hts⟩ (met_X0_open l dC dI cB cI tS H.size h0 k0 b0 o0 K B O (xs (6 * i + 1))) (cwV 1 hts (lw_V q301 q302 q303 q14 q304) rfl rfl rfl (by decide +kernel) ⟨Nat.le_of_ble_eq_true rfl, Nat.le_of_ble_eq_true rfl⟩) (bf_preVX hK hP hD [0, 1, 2, 3] (by decide) rfl (ci := 0) (q0 := 0) rfl rfl hX hS hA) rfl rfl hl.1 rfl (lv_room (Nat.le_of_ble_eq_true rfl)) dL_law_191 ⟨by show 9 + 9 * i + 9 ≤ 600096; omega, by show 1145 + 1098 * i + 1098 ≤ 7301386; omega⟩) hP hD hS hA [0, 1, 2, 3] [4, 5, 6, 7, 8] rfl rfl (by decide) (by decide) (fun _ H locs hP hD hS => ?_)
  have hP : va_P (dC, dI) vwCl [(h1, .inr (1, [.ref k1, .ref b1, .ref o1, .ref t1])), (k1, .inl (cB, 32, .inl K)), (b1, .inl (cB, 8, .inl B)), (o1, .inl (cB, 8, .inl O)), (t1, .inl (cI, 1042, .inl T)), (h0, .inr (0, [.ref k0, .ref b0, .ref o0])), (k0, .inl (cB, 32, .inl K)), (b0, .inl (cB, 8, .inl B)), (o0, .inl (cB, 8, .inl (bf_out bf_PI K B O (bf_n (xs (6 * i + 1))) false)))] H := hP
  have hD : va_D A [(h1, .inr (1, [.ref k1, .ref b1, .ref o1, .ref t1])), (k1, .inl (cB, 32, .inl K)), (b1, .inl (cB, 8, .inl B)), (o1, .inl (cB, 8, .inl O)), (t1, .inl (cI, 1042, .inl T)), (h0, .inr (0, [.ref k0, .ref b0, .ref o0])), (k0, .inl (cB, 32, .inl K)), (b0, .inl (cB, 8, .inl B)), (o0, .inl (cB, 8, .inl (bf_out bf_PI K B O (bf_n (xs (6 * i + 1))) false)))] := hD
  refine lv_aload_n hx hb dL_law_194 rfl (lv_at hl 2 rfl) ?_
  refine lv_aload_n hx hb dL_law_195 rfl (lv_at hl 0 rfl) ?_
  refine lv_iload_n hx hb dL_law_196 rfl (lv_at hl 3 rfl) ?_
  refine lv_iconst (v := 1) hx hb dL_law_197 (by decide) ?_
  refine lv_iadd hx hb dL_law_198 ?_
  refine bf_topE (y := nI (6 * i + 1)) (nI_add (6 * i) 1) ?_
  refine bf_sld hx hb hXs hbl hbA hS dL_law_199 (6 * i + 1) rfl (by omega) (by omega) ?_
  refine bf_callv (wr := [(h0, .inr (0, [.ref k0, .ref b0, .ref o0])), (k0, .inl (cB, 32, .inl K)), (b0, .inl (cB, 8, .inl B)), (o0, .inl (cB, 8, .inl (bf_out bf_PI K B O (bf_n (xs (6 * i + 1))) false)))]) (va_runV (As := [.int (xs (6 * i + 1))]) (rest := []) ⟨hx, hb, hml, hown, hts⟩ (met_X1_open l dC dI cB cI tS H.size h1 k1 b1 o1 t1 K B O T (xs (6 * i + 1))) (cwV 1 hts (lw_V q369 q370 q371 q15 q372) rfl rfl rfl (by decide +kernel) ⟨Nat.le_of_ble_eq_true rfl, Nat.le_of_ble_eq_true rfl⟩) (bf_preVX hK hP hD [0, 1, 2, 3, 4] (by decide) rfl (ci := 1) (q0 := 0) rfl rfl hX hS hA) rfl rfl hl.1 rfl (lv_room (Nat.le_of_ble_eq_true rfl)) dL_law_200 ⟨by show 9 + 9 * i + 9 + 0 ≤ 600096; omega, by show 1145 + 1098 * i + 1098 + 0 ≤ 7301386; omega⟩) hP hD hS hA [0, 1, 2, 3, 4] [5, 6, 7, 8] rfl rfl (by decide) (by decide) (fun _ H locs hP hD hS => ?_)
  have hP : va_P (dC, dI) vwCl [(h0, .inr (0, [.ref k0, .ref b0, .ref o0])), (k0, .inl (cB, 32, .inl K)), (b0, .inl (cB, 8, .inl B)), (o0, .inl (cB, 8, .inl (bf_out bf_PI K B O (bf_n (xs (6 * i + 1))) false))), (h1, .inr (1, [.ref k1, .ref b1, .ref o1, .ref t1])), (k1, .inl (cB, 32, .inl K)), (b1, .inl (cB, 8, .inl B)), (o1, .inl (cB, 8, .inl (bf_out bf_PI K B O (bf_n (xs (6 * i + 1))) false))), (t1, .inl (cI, 1042, .inl (bf_sch bf_PI K (bf_n (xs (6 * i + 1))))))] H := hP
  have hD : va_D A [(h0, .inr (0, [.ref k0, .ref b0, .ref o0])), (k0, .inl (cB, 32, .inl K)), (b0, .inl (cB, 8, .inl B)), (o0, .inl (cB, 8, .inl (bf_out bf_PI K B O (bf_n (xs (6 * i + 1))) false))), (h1, .inr (1, [.ref k1, .ref b1, .ref o1, .ref t1])), (k1, .inl (cB, 32, .inl K)), (b1, .inl (cB, 8, .inl B)), (o1, .inl (cB, 8, .inl (bf_out bf_PI K B O (bf_n (xs (6 * i + 1))) false))), (t1, .inl (cI, 1042, .inl (bf_sch bf_PI K (bf_n (xs (6 * i + 1))))))] := hD
  refine lv_goto (tgt := 240) hx hb dL_law_203 (by decide) ?_
  refine lv_iinc (v := nI (6 * (i + 1))) (lv' := [(3, .int (nI (6 * (i + 1)))), (0, .ref b), (1, .ref h0), (2, .ref h1)]) hx hb dL_law_240 hl (k := 3) rfl (by rw [show 6 * (i + 1) = 6 * i + 6 by omega]; exact nI_add (6 * i) 6) (by decide) rfl (fun ls hl => ?_)
  refine lv_goto (tgt := 18) hx hb dL_law_243 (by decide) ?_
  refine W.widen (k := 9 + 9 * (i + 1)) (n := 1145 + 1098 * (i + 1)) (by omega) (by omega) ?_
  exact ih H locs ls ⟨K, B, (bf_out bf_PI K B O (bf_n (xs (6 * i + 1))) false), (bf_sch bf_PI K (bf_n (xs (6 * i + 1)))), hP.sub [0, 1, 2, 3, 4, 5, 6, 7, 8] rfl, hD.sub [0, 1, 2, 3, 4, 5, 6, 7, 8] (by decide) rfl, hS, lv_sub hl [1, 2, 3, 0] rfl⟩
set_option maxHeartbeats 4000000 in
set_option maxRecDepth 100000 in
theorem law_again {p : Program} {e : Env} {s : State} {m : MethodId} {below : List Frame} {meth : Method} {c : Code} (l : Launch) {b L : Nat} {xs : Nat → Int32} (hL : L ≤ 288) (C0 : lw_At p s m meth c b L xs) {dC : Nat → ClassId} {dI : Nat → Nat → Nat} {cB cI : ClassId} {tS : Nat → Nat} {A : Nat → Prop} (hA : ∀ q : Nat, s.heap.size ≤ q → A q) (hbA : ¬ A b) (hK : va_K (dC, dI) vwCl (bfT cB cI) s) (hX : bfX tS A s s.heap) {h0 k0 b0 o0 h1 k1 b1 o1 t1 : Nat} {i : Nat} (hi : i < L / 6) (ih : ∀ (H : Heap) (locs : List Loc) (ls : Array Slot), bfI dC dI cB cI A s b h0 k0 b0 o0 h1 k1 b1 o1 t1 (i + 1) H locs ls → W p l e room_1 s m #[Value.ref b] below meth c H locs (9 + 9 * (i + 1)) (1145 + 1098 * (i + 1)) (lw_Z below #[Value.ref b] s) (F0 m 18 ls [])) {H : Heap} {locs : List Loc} {ls : Array Slot} (hI : bfI dC dI cB cI A s b h0 k0 b0 o0 h1 k1 b1 o1 t1 i H locs ls) : W p l e room_1 s m #[Value.ref b] below meth c H locs (9 + 9 * i) (1145 + 1098 * i) (lw_Z below #[Value.ref b] s) (F0 m 206 ls []) := by
  obtain ⟨hx, hb, hr, hml, hown, hts0, hXs, hbl, hlocks, hgv⟩ := id C0
  have hts : ∀ w ∈ lw_all, w.before _ s = true := fun w h => hts0 w (lw_all_tbl h)
  obtain ⟨K, B, O, T, hP, hD, hS, hl⟩ := hI
  refine lv_aload_n hx hb dL_law_206 rfl (lv_at hl 1 rfl) ?_
  refine bf_callv (wr := [(k0, .inl (cB, 32, .inl K)), (h1, .inr (1, [.ref k1, .ref b1, .ref o1, .ref t1])), (k1, .inl (cB, 32, .inl K)), (b1, .inl (cB, 8, .inl B)), (o1, .inl (cB, 8, .inl O)), (t1, .inl (cI, 1042, .inl T))]) (va_runV (As := []) (rest := []) ⟨hx, hb, hml, hown, hts⟩ (met_X0_again l dC dI cB cI H.size h0 k0 b0 o0 K B O) (cwV 0 hts (lw_V q305 q306 q307 q14 q308) rfl rfl rfl (by decide +kernel) ⟨Nat.le_of_ble_eq_true rfl, Nat.le_of_ble_eq_true rfl⟩) (bf_preV hK hP hD [0, 2, 3] (by decide) rfl (ci := 0) (q0 := 0) rfl rfl) rfl rfl hl.1 rfl (lv_room (Nat.le_of_ble_eq_true rfl)) dL_law_207 ⟨by show 9 + 9 * i + 0 ≤ 600096; omega, by show 1145 + 1098 * i + 0 ≤ 7301386; omega⟩) hP hD hS hA [0, 2, 3] [1, 4, 5, 6, 7, 8] rfl rfl (by decide) (by decide) (fun _ H locs hP hD hS => ?_)
  have hP : va_P (dC, dI) vwCl [(k0, .inl (cB, 32, .inl K)), (h1, .inr (1, [.ref k1, .ref b1, .ref o1, .ref t1])), (k1, .inl (cB, 32, .inl K)), (b1, .inl (cB, 8, .inl B)), (o1, .inl (cB, 8, .inl O)), (t1, .inl (cI, 1042, .inl T)), (h0, .inr (0, [.ref k0, .ref b0, .ref o0])), (b0, .inl (cB, 8, .inl (bf_cp B O 8))), (o0, .inl (cB, 8, .inl O))] H := hP
  have hD : va_D A [(k0, .inl (cB, 32, .inl K)), (h1, .inr (1, [.ref k1, .ref b1, .ref o1, .ref t1])), (k1, .inl (cB, 32, .inl K)), (b1, .inl (cB, 8, .inl B)), (o1, .inl (cB, 8, .inl O)), (t1, .inl (cI, 1042, .inl T)), (h0, .inr (0, [.ref k0, .ref b0, .ref o0])), (b0, .inl (cB, 8, .inl (bf_cp B O 8))), (o0, .inl (cB, 8, .inl O))] := hD
  refine lv_aload_n hx hb dL_law_210 rfl (lv_at hl 2 rfl) ?_
  refine bf_callv (wr := [(k0, .inl (cB, 32, .inl K)), (k1, .inl (cB, 32, .inl K)), (t1, .inl (cI, 1042, .inl T)), (h0, .inr (0, [.ref k0, .ref b0, .ref o0])), (b0, .inl (cB, 8, .inl (bf_cp B O 8))), (o0, .inl (cB, 8, .inl O))]) (va_runV (As := []) (rest := []) ⟨hx, hb, hml, hown, hts⟩ (met_X1_again l dC dI cB cI H.size h1 k1 b1 o1 t1 K B O T) (cwV 0 hts (lw_V q373 q374 q375 q15 q376) rfl rfl rfl (by decide +kernel) ⟨Nat.le_of_ble_eq_true rfl, Nat.le_of_ble_eq_true rfl⟩) (bf_preV hK hP hD [1, 3, 4] (by decide) rfl (ci := 1) (q0 := 1) rfl rfl) rfl rfl hl.1 rfl (lv_room (Nat.le_of_ble_eq_true rfl)) dL_law_211 ⟨by show 9 + 9 * i + 0 + 0 ≤ 600096; omega, by show 1145 + 1098 * i + 0 + 0 ≤ 7301386; omega⟩) hP hD hS hA [1, 3, 4] [0, 2, 5, 6, 7, 8] rfl rfl (by decide) (by decide) (fun _ H locs hP hD hS => ?_)
  have hP : va_P (dC, dI) vwCl [(k0, .inl (cB, 32, .inl K)), (k1, .inl (cB, 32, .inl K)), (t1, .inl (cI, 1042, .inl T)), (h0, .inr (0, [.ref k0, .ref b0, .ref o0])), (b0, .inl (cB, 8, .inl (bf_cp B O 8))), (o0, .inl (cB, 8, .inl O)), (h1, .inr (1, [.ref k1, .ref b1, .ref o1, .ref t1])), (b1, .inl (cB, 8, .inl (bf_cp B O 8))), (o1, .inl (cB, 8, .inl O))] H := hP
  have hD : va_D A [(k0, .inl (cB, 32, .inl K)), (k1, .inl (cB, 32, .inl K)), (t1, .inl (cI, 1042, .inl T)), (h0, .inr (0, [.ref k0, .ref b0, .ref o0])), (b0, .inl (cB, 8, .inl (bf_cp B O 8))), (o0, .inl (cB, 8, .inl O)), (h1, .inr (1, [.ref k1, .ref b1, .ref o1, .ref t1])), (b1, .inl (cB, 8, .inl (bf_cp B O 8))), (o1, .inl (cB, 8, .inl O))] := hD
  refine lv_goto (tgt := 240) hx hb dL_law_214 (by decide) ?_
  refine lv_iinc (v := nI (6 * (i + 1))) (lv' := [(3, .int (nI (6 * (i + 1)))), (0, .ref b), (1, .ref h0), (2, .ref h1)]) hx hb dL_law_240 hl (k := 3) rfl (by rw [show 6 * (i + 1) = 6 * i + 6 by omega]; exact nI_add (6 * i) 6) (by decide) rfl (fun ls hl => ?_)
  refine lv_goto (tgt := 18) hx hb dL_law_243 (by decide) ?_
  refine W.widen (k := 9 + 9 * (i + 1)) (n := 1145 + 1098 * (i + 1)) (by omega) (by omega) ?_
  exact ih H locs ls ⟨K, (bf_cp B O 8), O, T, hP.sub [3, 0, 4, 5, 6, 1, 7, 8, 2] rfl, hD.sub [3, 0, 4, 5, 6, 1, 7, 8, 2] (by decide) rfl, hS, lv_sub hl [1, 2, 3, 0] rfl⟩
set_option maxHeartbeats 4000000 in
set_option maxRecDepth 100000 in
theorem law_out {p : Program} {e : Env} {s : State} {m : MethodId} {below : List Frame} {meth : Method} {c : Code} (l : Launch) {b L : Nat} {xs : Nat → Int32} (hL : L ≤ 288) (C0 : lw_At p s m meth c b L xs) {dC : Nat → ClassId} {dI : Nat → Nat → Nat} {cB cI : ClassId} {tS : Nat → Nat} {A : Nat → Prop} (hA : ∀ q : Nat, s.heap.size ≤ q → A q) (hbA : ¬ A b) (hK : va_K (dC, dI) vwCl (bfT cB cI) s) (hX : bfX tS A s s.heap) {h0 k0 b0 o0 h1 k1 b1 o1 t1 : Nat} {i : Nat} (hi : i < L / 6) (ih : ∀ (H : Heap) (locs : List Loc) (ls : Array Slot), bfI dC dI cB cI A s b h0 k0 b0 o0 h1 k1 b1 o1 t1 (i + 1) H locs ls → W p l e room_1 s m #[Value.ref b] below meth c H locs (9 + 9 * (i + 1)) (1145 + 1098 * (i + 1)) (lw_Z below #[Value.ref b] s) (F0 m 18 ls [])) {H : Heap} {locs : List Loc} {ls : Array Slot} (hI : bfI dC dI cB cI A s b h0 k0 b0 o0 h1 k1 b1 o1 t1 i H locs ls) : W p l e room_1 s m #[Value.ref b] below meth c H locs (9 + 9 * i) (1145 + 1098 * i) (lw_Z below #[Value.ref b] s) (F0 m 217 ls []) := by
  obtain ⟨hx, hb, hr, hml, hown, hts0, hXs, hbl, hlocks, hgv⟩ := id C0
  have hts : ∀ w ∈ lw_all, w.before _ s = true := fun w h => hts0 w (lw_all_tbl h)
  obtain ⟨K, B, O, T, hP, hD, hS, hl⟩ := hI
  refine lv_aload_n hx hb dL_law_217 rfl (lv_at hl 1 rfl) ?_
  refine lv_aload_n hx hb dL_law_218 rfl (lv_at hl 0 rfl) ?_
  refine lv_iload_n hx hb dL_law_219 rfl (lv_at hl 3 rfl) ?_
  refine lv_iconst (v := 1) hx hb dL_law_220 (by decide) ?_
  refine lv_iadd hx hb dL_law_221 ?_
  refine bf_topE (y := nI (6 * i + 1)) (nI_add (6 * i) 1) ?_
  refine bf_sld hx hb hXs hbl hbA hS dL_law_222 (6 * i + 1) rfl (by omega) (by omega) ?_
  refine bf_calli (va_Run.run (va_runV (As := [.int (xs (6 * i + 1))]) (rest := []) ⟨hx, hb, hml, hown, hts⟩ (met_X0_out l dC dI cB cI h0 k0 b0 o0 K B O (xs (6 * i + 1))) (cwV 1 hts (lw_V q309 q310 q311 q14 q312) rfl rfl rfl (by decide +kernel) ⟨Nat.le_of_ble_eq_true rfl, Nat.le_of_ble_eq_true rfl⟩) (bf_rdV hK hP [0, 3] rfl (ci := 0) (q0 := 0) rfl rfl) rfl rfl hl.1 rfl (lv_room (Nat.le_of_ble_eq_true rfl)) dL_law_223 ⟨by show 9 + 9 * i + 0 ≤ 600096; omega, by show 1145 + 1098 * i + 0 ≤ 7301386; omega⟩)) ?_
  refine lv_aload_n hx hb dL_law_226 rfl (lv_at hl 2 rfl) ?_
  refine lv_aload_n hx hb dL_law_227 rfl (lv_at hl 0 rfl) ?_
  refine lv_iload_n hx hb dL_law_228 rfl (lv_at hl 3 rfl) ?_
  refine lv_iconst (v := 1) hx hb dL_law_229 (by decide) ?_
  refine lv_iadd hx hb dL_law_230 ?_
  refine bf_topE (y := nI (6 * i + 1)) (nI_add (6 * i) 1) ?_
  refine bf_sld hx hb hXs hbl hbA hS dL_law_231 (6 * i + 1) rfl (by omega) (by omega) ?_
  refine bf_calli (va_Run.run (va_runV (As := [.int (xs (6 * i + 1))]) (rest := [.int (O ((xs (6 * i + 1)).toBitVec.toNat % 2 ^ 3) &&& 255)]) ⟨hx, hb, hml, hown, hts⟩ (met_X1_out l dC dI cB cI h1 k1 b1 o1 t1 K B O T (xs (6 * i + 1))) (cwV 1 hts (lw_V q377 q378 q379 q15 q380) rfl rfl rfl (by decide +kernel) ⟨Nat.le_of_ble_eq_true rfl, Nat.le_of_ble_eq_true rfl⟩) (bf_rdV hK hP [4, 7] rfl (ci := 1) (q0 := 4) rfl rfl) rfl rfl hl.1 rfl (lv_room (Nat.le_of_ble_eq_true rfl)) dL_law_232 ⟨by show 9 + 9 * i + 0 ≤ 600096; omega, by show 1145 + 1098 * i + 0 ≤ 7301386; omega⟩)) ?_
  refine lv_icmp_eq (tgt := 240) hx hb dL_law_235 (by decide) (fun _ => ?_) (fun h9 => absurd rfl h9)
  refine lv_iinc (v := nI (6 * (i + 1))) (lv' := [(3, .int (nI (6 * (i + 1)))), (0, .ref b), (1, .ref h0), (2, .ref h1)]) hx hb dL_law_240 hl (k := 3) rfl (by rw [show 6 * (i + 1) = 6 * i + 6 by omega]; exact nI_add (6 * i) 6) (by decide) rfl (fun ls hl => ?_)
  refine lv_goto (tgt := 18) hx hb dL_law_243 (by decide) ?_
  refine W.widen (k := 9 + 9 * (i + 1)) (n := 1145 + 1098 * (i + 1)) (by omega) (by omega) ?_
  exact ih H locs ls ⟨K, B, O, T, hP.sub [0, 1, 2, 3, 4, 5, 6, 7, 8] rfl, hD.sub [0, 1, 2, 3, 4, 5, 6, 7, 8] (by decide) rfl, hS, lv_sub hl [1, 2, 3, 0] rfl⟩
set_option maxHeartbeats 4000000 in
set_option maxRecDepth 100000 in
theorem law_none {p : Program} {e : Env} {s : State} {m : MethodId} {below : List Frame} {meth : Method} {c : Code} (l : Launch) {b L : Nat} {xs : Nat → Int32} (hL : L ≤ 288) (C0 : lw_At p s m meth c b L xs) {dC : Nat → ClassId} {dI : Nat → Nat → Nat} {cB cI : ClassId} {tS : Nat → Nat} {A : Nat → Prop} (hA : ∀ q : Nat, s.heap.size ≤ q → A q) (hbA : ¬ A b) (hK : va_K (dC, dI) vwCl (bfT cB cI) s) (hX : bfX tS A s s.heap) {h0 k0 b0 o0 h1 k1 b1 o1 t1 : Nat} {i : Nat} (hi : i < L / 6) (ih : ∀ (H : Heap) (locs : List Loc) (ls : Array Slot), bfI dC dI cB cI A s b h0 k0 b0 o0 h1 k1 b1 o1 t1 (i + 1) H locs ls → W p l e room_1 s m #[Value.ref b] below meth c H locs (9 + 9 * (i + 1)) (1145 + 1098 * (i + 1)) (lw_Z below #[Value.ref b] s) (F0 m 18 ls [])) {H : Heap} {locs : List Loc} {ls : Array Slot} (hI : bfI dC dI cB cI A s b h0 k0 b0 o0 h1 k1 b1 o1 t1 i H locs ls) : W p l e room_1 s m #[Value.ref b] below meth c H locs (9 + 9 * i) (1145 + 1098 * i) (lw_Z below #[Value.ref b] s) (F0 m 240 ls []) := by
  obtain ⟨hx, hb, hr, hml, hown, hts0, hXs, hbl, hlocks, hgv⟩ := id C0
  have hts : ∀ w ∈ lw_all, w.before _ s = true := fun w h => hts0 w (lw_all_tbl h)
  obtain ⟨K, B, O, T, hP, hD, hS, hl⟩ := hI
  refine lv_iinc (v := nI (6 * (i + 1))) (lv' := [(3, .int (nI (6 * (i + 1)))), (0, .ref b), (1, .ref h0), (2, .ref h1)]) hx hb dL_law_240 hl (k := 3) rfl (by rw [show 6 * (i + 1) = 6 * i + 6 by omega]; exact nI_add (6 * i) 6) (by decide) rfl (fun ls hl => ?_)
  refine lv_goto (tgt := 18) hx hb dL_law_243 (by decide) ?_
  refine W.widen (k := 9 + 9 * (i + 1)) (n := 1145 + 1098 * (i + 1)) (by omega) (by omega) ?_
  exact ih H locs ls ⟨K, B, O, T, hP.sub [0, 1, 2, 3, 4, 5, 6, 7, 8] rfl, hD.sub [0, 1, 2, 3, 4, 5, 6, 7, 8] (by decide) rfl, hS, lv_sub hl [1, 2, 3, 0] rfl⟩
set_option maxHeartbeats 4000000 in
set_option maxRecDepth 100000 in
theorem law_loop {p : Program} {e : Env} {s : State} {m : MethodId} {below : List Frame} {meth : Method} {c : Code} (l : Launch) {b L : Nat} {xs : Nat → Int32} (hL : L ≤ 288) (C0 : lw_At p s m meth c b L xs) {dC : Nat → ClassId} {dI : Nat → Nat → Nat} {cB cI : ClassId} {tS : Nat → Nat} {A : Nat → Prop} (hA : ∀ q : Nat, s.heap.size ≤ q → A q) (hbA : ¬ A b) (hK : va_K (dC, dI) vwCl (bfT cB cI) s) (hX : bfX tS A s s.heap) {h0 k0 b0 o0 h1 k1 b1 o1 t1 : Nat} {H : Heap} {locs : List Loc} {ls : Array Slot} (hI : bfI dC dI cB cI A s b h0 k0 b0 o0 h1 k1 b1 o1 t1 0 H locs ls) (hAn : ∀ q : Nat, A q → s.heap.size ≤ q) : W p l e room_1 s m #[Value.ref b] below meth c H locs (9 + 9 * 0) (1145 + 1098 * 0) (lw_Z below #[Value.ref b] s) (F0 m 18 ls []) := by
  obtain ⟨hx, hb, hr, hml, hown, hts0, hXs, hbl, hlocks, hgv⟩ := id C0
  have hts : ∀ w ∈ lw_all, w.before _ s = true := fun w h => hts0 w (lw_all_tbl h)
  refine bf_while (L / 6) (bfI dC dI cB cI A s b h0 k0 b0 o0 h1 k1 b1 o1 t1) (fun i => 9 + 9 * i) (fun i => 1145 + 1098 * i) 0 (Nat.zero_le _) hI (fun H locs ls hI => ?_) (fun i hi ih H locs ls hI => ?_)
  · obtain ⟨K, B, O, T, hP, hD, hS, hl⟩ := hI
    refine lv_iload_n hx hb dL_law_18 rfl (lv_at hl 3 rfl) ?_
    refine lv_aload_n hx hb dL_law_19 rfl (lv_at hl 0 rfl) ?_
    refine va_slen hx hb hXs hbl hbA hS dL_law_20 ?_
    refine lv_bipush (v := 6) hx hb dL_law_21 (by decide) ?_
    refine lv_isub hx hb dL_law_23 ?_
    refine lv_icmp_gt (tgt := 246) hx hb dL_law_24 (by decide) (fun _ => ?_) (fun h9 => absurd ((bf_cmp hL (by omega)).mpr (by omega)) h9)
    refine lv_iconst (v := 1) hx hb dL_law_246 (by decide) ?_
    refine va_forget (fun q hq => hAn _ (hS.2.2 q hq)) ?_
    refine W.widen (k := 600096) (n := 7301386) (by show 9 + 9 * (L / 6) ≤ _; omega) (by show 1145 + 1098 * (L / 6) ≤ _; omega) ?_
    exact lw_ret hx hb hr hlocks dL_law_247
  · have hI0 := hI
    obtain ⟨K, B, O, T, hP, hD, hS, hl⟩ := hI
    refine lv_iload_n hx hb dL_law_18 rfl (lv_at hl 3 rfl) ?_
    refine lv_aload_n hx hb dL_law_19 rfl (lv_at hl 0 rfl) ?_
    refine va_slen hx hb hXs hbl hbA hS dL_law_20 ?_
    refine lv_bipush (v := 6) hx hb dL_law_21 (by decide) ?_
    refine lv_isub hx hb dL_law_23 ?_
    refine lv_icmp_gt (tgt := 246) hx hb dL_law_24 (by decide) (fun h9 => absurd h9 (fun h => absurd ((bf_cmp hL (by omega)).mp h) (by omega))) (fun _ => ?_)
    refine lv_aload_n hx hb dL_law_27 rfl (lv_at hl 0 rfl) ?_
    refine lv_iload_n hx hb dL_law_28 rfl (lv_at hl 3 rfl) ?_
    refine bf_sld hx hb hXs hbl hbA hS dL_law_29 (6 * i) rfl (by omega) (by omega) ?_
    refine lv_bipush (v := 7) hx hb dL_law_30 (by decide) ?_
    refine lv_iand hx hb dL_law_32 ?_
    refine bf_topE (y := nI ((xs (6 * i)).toBitVec.toNat % 2 ^ 3)) (pk_and _ 3 (by decide)) ?_
    have hc : (xs (6 * i)).toBitVec.toNat % 2 ^ 3 = 0 ∨ (xs (6 * i)).toBitVec.toNat % 2 ^ 3 = 1 ∨ (xs (6 * i)).toBitVec.toNat % 2 ^ 3 = 2 ∨ (xs (6 * i)).toBitVec.toNat % 2 ^ 3 = 3 ∨ (xs (6 * i)).toBitVec.toNat % 2 ^ 3 = 4 ∨ (xs (6 * i)).toBitVec.toNat % 2 ^ 3 = 5 ∨ (xs (6 * i)).toBitVec.toNat % 2 ^ 3 = 6 ∨ (xs (6 * i)).toBitVec.toNat % 2 ^ 3 = 7 := by omega
    rcases hc with hc | hc | hc | hc | hc | hc | hc | hc
    · refine bf_topE (y := 0) (by rw [hc]; rfl) ?_
      refine lv_tableIn (off := 39) (tgt := 72) hx hb dL_law_33 (by decide) (by decide) (by decide) (by decide) ?_
      exact law_key l hL C0 hA hbA hK hX hi ih hI0
    · refine bf_topE (y := 1) (by rw [hc]; rfl) ?_
      refine lv_tableIn (off := 100) (tgt := 133) hx hb dL_law_33 (by decide) (by decide) (by decide) (by decide) ?_
      exact law_block l hL C0 hA hbA hK hX hi ih hI0
    · refine bf_topE (y := 2) (by rw [hc]; rfl) ?_
      refine lv_tableIn (off := 131) (tgt := 164) hx hb dL_law_33 (by decide) (by decide) (by decide) (by decide) ?_
      exact law_lock l hL C0 hA hbA hK hX hi ih hI0
    · refine bf_topE (y := 3) (by rw [hc]; rfl) ?_
      refine lv_tableIn (off := 152) (tgt := 185) hx hb dL_law_33 (by decide) (by decide) (by decide) (by decide) ?_
      exact law_open l hL C0 hA hbA hK hX hi ih hI0
    · refine bf_topE (y := 4) (by rw [hc]; rfl) ?_
      refine lv_tableIn (off := 173) (tgt := 206) hx hb dL_law_33 (by decide) (by decide) (by decide) (by decide) ?_
      exact law_again l hL C0 hA hbA hK hX hi ih hI0
    · refine bf_topE (y := 5) (by rw [hc]; rfl) ?_
      refine lv_tableIn (off := 184) (tgt := 217) hx hb dL_law_33 (by decide) (by decide) (by decide) (by decide) ?_
      exact law_out l hL C0 hA hbA hK hX hi ih hI0
    · refine bf_topE (y := 6) (by rw [hc]; rfl) ?_
      refine lv_tableOut (tgt := 240) hx hb dL_law_33 (Or.inr (by decide)) (by decide) ?_
      exact law_none l hL C0 hA hbA hK hX hi ih hI0
    · refine bf_topE (y := 7) (by rw [hc]; rfl) ?_
      refine lv_tableOut (tgt := 240) hx hb dL_law_33 (Or.inr (by decide)) (by decide) ?_
      exact law_none l hL C0 hA hbA hK hX hi ih hI0
set_option maxHeartbeats 4000000 in
set_option maxRecDepth 100000 in
/-- THE LAW, from its entry -/
theorem whole_start {p : Program} {e : Env} {s : State} {m : MethodId} {below : List Frame} {meth : Method} {c : Code} (l : Launch) (hflags : l.flags = flags0) {b L : Nat} {xs : Nat → Int32} (hL : L ≤ 288) (C0 : lw_At p s m meth c b L xs) : W p l e room_1 s m #[Value.ref b] below meth c s.heap [] 0 0 (lw_Z below #[Value.ref b] s) (entryFrame m ([Value.ref b] : List Value).toArray 4) := by
  obtain ⟨hx, hb, hr, hml, hown, hts0, hXs, hbl, hlocks, hgv⟩ := id C0
  have hts : ∀ w ∈ lw_all, w.before _ s = true := fun w h => hts0 w (lw_all_tbl h)
  obtain ⟨c0_, iS0, hKn0⟩ := u_known (C := RX0) (T := TX0) (N := 3) (n := 3) hts in_X0 (hts _ q28)
  obtain ⟨c1_, iS1, hKn1⟩ := u_known (C := RX1) (T := TX1) (N := 4) (n := 4) hts in_X1 (hts _ q314)
  obtain ⟨c2_, iS2, hKn2⟩ := u_known (C := RX2) (T := TX2) (N := 7) (n := 7) hts in_X2 (hts _ q69)
  obtain ⟨c3_, iS3, hKn3⟩ := u_known (C := RX3) (T := TX3) (N := 1) (n := 1) hts in_X3 (hts _ q98)
  obtain ⟨dC, dI, hKc⟩ : ∃ (dC : Nat → ClassId) (dI : Nat → Nat → Nat), ∀ (k : Nat) (q : vw_C), vwCl[k]? = some q → u_Kn s q.1 q.2.1 q.2.2 (dC k) (dI k) := by
    refine ⟨fun k => if k = 0 then c0_ else if k = 1 then c1_ else if k = 2 then c2_ else c3_, fun k => if k = 0 then iS0 else if k = 1 then iS1 else if k = 2 then iS2 else iS3, ?_⟩
    intro k q hq
    match k, hq with
    | 0, hq => cases hq; exact hKn0
    | 1, hq => cases hq; exact hKn1
    | 2, hq => cases hq; exact hKn2
    | 3, hq => cases hq; exact hKn3
    | k + 4, hq => simp [vwCl] at hq
  obtain ⟨cB, hB1, hB2⟩ := bf_acls (hts _ q45)
  obtain ⟨cI, hI1, hI2⟩ := bf_acls (hts _ q96)
  have hK : va_K (dC, dI) vwCl (bfT cB cI) s := by
    refine ⟨hKc, fun k q h => ?_⟩
    match k, h with
    | 0, h => cases h; exact ⟨hB1, hB2⟩
    | 1, h => cases h; exact ⟨hI1, hI2⟩
    | k + 2, h => simp [bfT] at h
  obtain ⟨A, hAe⟩ : ∃ A : Nat → Prop, A = fun q : Nat => s.heap.size ≤ q := ⟨_, rfl⟩
  have hA : ∀ q : Nat, s.heap.size ≤ q → A q := fun q h => by rw [hAe]; exact h
  have hAn : ∀ q : Nat, A q → s.heap.size ≤ q := fun q h => by rw [hAe] at h; exact h
  have hA9 : ∀ a : Nat, a < s.heap.size → ¬ A a := fun a h h9 => absurd (hAn a h9) (Nat.not_le.mpr h)
  have hbA : ¬ A b := hA9 b hbl
  obtain ⟨t0_, hT0⟩ := bf_tab_KS0 (A := A) hts0 hgv hA9
  obtain ⟨t1_, hT1⟩ := bf_tab_KS1 (A := A) hts0 hgv hA9
  obtain ⟨t2_, hT2⟩ := bf_tab_KS2 (A := A) hts0 hgv hA9
  obtain ⟨t3_, hT3⟩ := bf_tab_KS3 (A := A) hts0 hgv hA9
  obtain ⟨t4_, hT4⟩ := bf_tab_KP (A := A) hts0 hgv hA9
  obtain ⟨t5_, hT5⟩ := bf_tab_PI (A := A) hts0 hgv hA9
  obtain ⟨tS, hX⟩ : ∃ tS : Nat → Nat, bfX tS A s s.heap := by
    refine ⟨fun k => if k = 0 then t0_ else if k = 1 then t1_ else if k = 2 then t2_ else if k = 3 then t3_ else if k = 4 then t4_ else t5_, hT0, hT1, hT2, hT3, hT4, hT5, ?_, ?_⟩
    · exact va_Fw.of (hts0 _ q119) (hts0 _ q118) (hts0 _ q124) (hts0 _ q122) (hts0 _ q120)
    · exact va_Fw.of (hts0 _ q226) (hts0 _ q225) (hts0 _ q230) (hts0 _ q228) (hts0 _ q120)
  have hS : va_S A s.heap s.heap [] := va_S.rf
  have hP : va_P (dC, dI) vwCl [] s.heap := fun k q h => by simp at h
  have hD : va_D A [] := ⟨fun i j p q h => by simp at h, fun k q h => by simp at h⟩
  have hl := lv_entry ([.ref b]) (n := 4) (Nat.le_of_ble_eq_true rfl)
  rw [lg_entry_eq]
  generalize (lg_sl ([.ref b]) ++ List.replicate (4 - (lg_sl ([.ref b])).length) Slot.unset).toArray = ls at hl ⊢
  have hl : lv_has ls 4 [(0, .ref b)] := hl
  refine va_new (ci := 0) (fs := [.null, .null, .null]) (C := RX0) (T := TX0) (N := 3) hx hb hts in_X0 tyX0 tyX0_ok hown (hts _ q27) (hts _ q28) (hts _ q14) hK hP hD hS hA rfl (fun j hj => by rcases (show j = 0 ∨ j = 1 ∨ j = 2 by omega) with rfl | rfl | rfl <;> rfl) (Nat.le_of_ble_eq_true rfl) (Nat.le_of_ble_eq_true rfl) dL_law_0 (fun h0 H hP hD hS => ?_)
  have hP : va_P (dC, dI) vwCl [(h0, .inr (0, [.null, .null, .null]))] H := hP
  have hD : va_D A [(h0, .inr (0, [.null, .null, .null]))] := hD
  refine lv_dup hx hb dL_law_3 rfl ?_
  refine bf_callv (wr := []) (va_runI (As := []) (rest := [.ref h0]) ⟨hx, hb, hml, hown, hts⟩ (met_X0_init l dC dI cB cI H.size h0) (cwI 0 hts (lw_meth q31) rfl rfl rfl (hts _ q14) (hts _ q29) (hts _ q30) rfl (by decide +kernel) ⟨Nat.le_of_ble_eq_true rfl, Nat.le_of_ble_eq_true rfl⟩) (bf_preS hK hP hD [0] (by decide) rfl) rfl rfl hl.1 rfl (lv_room (Nat.le_of_ble_eq_true rfl)) dL_law_4 ⟨Nat.le_of_ble_eq_true rfl, Nat.le_of_ble_eq_true rfl⟩) hP hD hS hA [0] [] rfl rfl (by decide) (by decide) (fun u H locs hP hD hS => ?_)
  obtain ⟨k0, b0, o0⟩ := u
  have hP : va_P (dC, dI) vwCl [(h0, .inr (0, [.ref k0, .ref b0, .ref o0])), (k0, .inl (cB, 32, .inl (fun _ => 0))), (b0, .inl (cB, 8, .inl (fun _ => 0))), (o0, .inl (cB, 8, .inl (fun _ => 0)))] H := hP
  have hD : va_D A [(h0, .inr (0, [.ref k0, .ref b0, .ref o0])), (k0, .inl (cB, 32, .inl (fun _ => 0))), (b0, .inl (cB, 8, .inl (fun _ => 0))), (o0, .inl (cB, 8, .inl (fun _ => 0)))] := hD
  refine lv_astore_n (lv' := [(1, .ref h0), (0, .ref b)]) hx hb dL_law_7 rfl hl (by decide) rfl (fun ls hl => ?_)
  refine va_new (ci := 1) (fs := [.null, .null, .null, .null]) (C := RX1) (T := TX1) (N := 4) hx hb hts in_X1 tyX1 tyX1_ok hown (hts _ q313) (hts _ q314) (hts _ q15) hK hP hD hS hA rfl (fun j hj => by rcases (show j = 0 ∨ j = 1 ∨ j = 2 ∨ j = 3 by omega) with rfl | rfl | rfl | rfl <;> rfl) (Nat.le_of_ble_eq_true rfl) (Nat.le_of_ble_eq_true rfl) dL_law_8 (fun h1 H hP hD hS => ?_)
  have hP : va_P (dC, dI) vwCl [(h0, .inr (0, [.ref k0, .ref b0, .ref o0])), (k0, .inl (cB, 32, .inl (fun _ => 0))), (b0, .inl (cB, 8, .inl (fun _ => 0))), (o0, .inl (cB, 8, .inl (fun _ => 0))), (h1, .inr (1, [.null, .null, .null, .null]))] H := hP
  have hD : va_D A [(h0, .inr (0, [.ref k0, .ref b0, .ref o0])), (k0, .inl (cB, 32, .inl (fun _ => 0))), (b0, .inl (cB, 8, .inl (fun _ => 0))), (o0, .inl (cB, 8, .inl (fun _ => 0))), (h1, .inr (1, [.null, .null, .null, .null]))] := hD
  refine lv_dup hx hb dL_law_11 rfl ?_
  refine bf_callv (wr := [(h0, .inr (0, [.ref k0, .ref b0, .ref o0])), (k0, .inl (cB, 32, .inl (fun _ => 0))), (b0, .inl (cB, 8, .inl (fun _ => 0))), (o0, .inl (cB, 8, .inl (fun _ => 0)))]) (va_runI (As := []) (rest := [.ref h1]) ⟨hx, hb, hml, hown, hts⟩ (met_X1_init l dC dI cB cI H.size h1) (cwI 0 hts (lw_meth q317) rfl rfl rfl (hts _ q15) (hts _ q315) (hts _ q316) rfl (by decide +kernel) ⟨Nat.le_of_ble_eq_true rfl, Nat.le_of_ble_eq_true rfl⟩) (bf_preS hK hP hD [4] (by decide) rfl) rfl rfl hl.1 rfl (lv_room (Nat.le_of_ble_eq_true rfl)) dL_law_12 ⟨Nat.le_of_ble_eq_true rfl, Nat.le_of_ble_eq_true rfl⟩) hP hD hS hA [4] [0, 1, 2, 3] rfl rfl (by decide) (by decide) (fun u H locs hP hD hS => ?_)
  obtain ⟨k1, b1, o1, t1⟩ := u
  have hP : va_P (dC, dI) vwCl [(h0, .inr (0, [.ref k0, .ref b0, .ref o0])), (k0, .inl (cB, 32, .inl (fun _ => 0))), (b0, .inl (cB, 8, .inl (fun _ => 0))), (o0, .inl (cB, 8, .inl (fun _ => 0))), (h1, .inr (1, [.ref k1, .ref b1, .ref o1, .ref t1])), (k1, .inl (cB, 32, .inl (fun _ => 0))), (b1, .inl (cB, 8, .inl (fun _ => 0))), (o1, .inl (cB, 8, .inl (fun _ => 0))), (t1, .inl (cI, 1042, .inl (fun _ => 0)))] H := hP
  have hD : va_D A [(h0, .inr (0, [.ref k0, .ref b0, .ref o0])), (k0, .inl (cB, 32, .inl (fun _ => 0))), (b0, .inl (cB, 8, .inl (fun _ => 0))), (o0, .inl (cB, 8, .inl (fun _ => 0))), (h1, .inr (1, [.ref k1, .ref b1, .ref o1, .ref t1])), (k1, .inl (cB, 32, .inl (fun _ => 0))), (b1, .inl (cB, 8, .inl (fun _ => 0))), (o1, .inl (cB, 8, .inl (fun _ => 0))), (t1, .inl (cI, 1042, .inl (fun _ => 0)))] := hD
  refine lv_astore_n (lv' := [(2, .ref h1), (1, .ref h0), (0, .ref b)]) hx hb dL_law_15 rfl hl (by decide) rfl (fun ls hl => ?_)
  refine lv_iconst (v := 0) hx hb dL_law_16 (by decide) ?_
  refine lv_istore_n (lv' := [(3, .int 0), (2, .ref h1), (1, .ref h0), (0, .ref b)]) hx hb dL_law_17 rfl hl (by decide) rfl (fun ls hl => ?_)
  refine W.widen (k := 9 + 9 * 0) (n := 1145 + 1098 * 0) (Nat.le_of_ble_eq_true rfl) (Nat.le_of_ble_eq_true rfl) ?_
  exact law_loop l hL C0 hA hbA hK hX ⟨(fun _ => 0), (fun _ => 0), (fun _ => 0), (fun _ => 0), hP, hD, hS, lv_sub hl [3, 2, 1, 0] rfl⟩ hAn
end
section
-- ===== YOUR PART ENDS =====
set_option maxHeartbeats 4000000 in
theorem lw_walk (l : Launch) (hflags : l.flags = flags0) (b : Addr) (xs : List Int32) : MetFree l x (headSpec (Jvm.Cond.code x code maxLocals ret :: tables_1) room_1) (lw_P b xs) (fun _ _ _ _ _ => True) lw_Q := by
  refine MetFree.of_bodyS (code := code) (maxLocals := maxLocals) (ret := ret) (by decide) ?_ ?_
  · intro args s m h hn
    obtain ⟨meth, c, h1, h2, h3, h4, h5, h6, -, -⟩ := Cond.code_spec hn (atoms_spec (ws := Jvm.Cond.code x code maxLocals ret :: tables_1) h _ List.mem_cons_self)
    exact ⟨meth, c, h1, h2, h3, h4, h5, h6⟩
  · intro p e s m args below meth c s₁ B hml0 hP _
    obtain ⟨rfl, hx, hbd, hgv⟩ := hP
    obtain ⟨scr, harrAt, hlist, hof, hsmall⟩ := hx
    obtain ⟨hcb, hkn, -, -⟩ := State.arrayAt?_spec harrAt
    have hown : s.vm.findClass R_law = some m.cls := findClass_of_methodNamed B.named
    have hts0 : ∀ c ∈ (Jvm.Cond.code x code maxLocals ret :: tables_1), c.before #[Value.ref b] s = true := atoms_spec (ws := Jvm.Cond.code x code maxLocals ret :: tables_1) B.pre
    have hts : ∀ w ∈ lw_tbl, w.before #[Value.ref b] s = true := k2_hts_sels lw_privs (fun w hw => hts0 w (List.mem_cons_of_mem _ hw)) lw_privs_ok
    have hml : c.maxLocals = 4 := B.maxLocals_eq (hts0 _ List.mem_cons_self)
    have X₀ : Stand p l e room_1 s m #[Value.ref b] below meth c s₁ [] 0 0 := Stand.of_body B
    have hh0 : s₁.heap = s.heap := by rw [B.state]; rfl
    have hsz : scr.slots.size = xs.length := by rw [← Array.length_toList, hlist, List.length_map]
    have hval : ∀ j : Nat, j < xs.length → scr.slots[j]? = some (.int (xs.getD j 0)) := fun j hj => by
      rw [← Array.getElem?_toList, hlist]
      simp [hj]
    have hbl : b < s.heap.size := (Array.getElem?_eq_some_iff.mp hcb).1
    have hX : va_X b xs.length (fun j => xs.getD j 0) s s.heap := ⟨scr, hcb, hof, hkn, hsz, hval⟩
    have K : W p l e room_1 s m #[Value.ref b] below meth c s₁.heap [] 0 0 (lw_Z below #[Value.ref b] s) (entryFrame m ([Value.ref b] : List Value).toArray 4) := by
      rw [hh0]
      exact whole_start l hflags hbd ⟨B.exec, B.bytes, B.returns, hml, hown, hts, hX, hbl, B.notSynchronized, hgv⟩
    obtain ⟨t, a1, o, b1, b2, b3⟩ := K s₁ rfl X₀
    exact ⟨t, o, a1, b1, b2, b3⟩
theorem lw_pre_spec {args : Array Value} {s : State} (h : (Jvm.Cond.and given_1 narrow_1).before args s = true) (hr : rest_1_c.before args s = true) : ∃ (b : Addr) (xs : List Int32), lw_P b xs args s := by
  have hs := flat_of_before _ h
  have hq := flat_of_before _ hr
  have hc : (Cond.count 1).before args s = true := hs _ (by decide +kernel)
  have harr : (Cond.arrayOf (.arg 0) .int).before args s = true := hs _ (by decide +kernel)
  have hle : (Cond.le (.length (.arg 0)) (.int 288)).before args s = true := hs _ (by decide +kernel)
  have hlen : (Cond.isInt (.length (.arg 0))).before args s = true := hq _ (by decide +kernel)
  have hall : (Cond.all (.arg 0) (.isInt (.elem (.arg 0) (.index 0)))).before args s = true := hq _ (by decide +kernel)
  obtain ⟨b, xs, hb, hx⟩ := State.ints_of_pre rfl harr hlen hall
  have hsm : xs.length < 2 ^ 31 := hx.choose_spec.2.2.2
  have hev : (Term.length (.arg 0)).eval args s none [] s = some (.int xs.length.toInt32) := hx.length_eval hb
  have hv := Cond.le_ints hev (show (Term.int 288).eval args s none [] s = some (.int 288) from rfl)
  have hd : xs.length.toInt32 ≤ 288 := by
    simpa [Cond.before, Cond.holds, hv] using hle
  have hN : xs.length ≤ 288 := (Int32.ofNat_le_ofNat hsm (by decide)).mp (show Int32.ofNat xs.length ≤ Int32.ofNat 288 from hd)
  exact ⟨b, xs, Cond.one_arg hc (show args[0]? = some (.ref b) from hb), hx, hN, h⟩
theorem lw_comes (l : Launch) (hflags : l.flags = flags0) : Comes l x (Jvm.Cond.code x code maxLocals ret :: tables_1) room_1 (fun tb e args s => Calls_1 tb e args s ∧ rest_1 tb e args s ∧ Pre_1 tb e args s)
    (fun _ _ args s o t => lw_Q args s o t) := by
  intro p e ha hc hk s m args below hf hfit hheap happ hpre
  obtain ⟨b, xs, hP⟩ := lw_pre_spec hpre.2.2 hpre.2.1
  obtain ⟨k, o, h1, h2, h3, hQ⟩ := lw_walk l hflags b xs p e ha hc hk s m args below hf ((Spec.applies_iff_loose hf).mp happ).1 hP trivial
  exact ⟨k, o, h1, h2, h3, hQ⟩
theorem lw_frame {s t : State} {o : Outcome} {args : Array Value} (h : Framed s o t [] 600096 7301386) :
    Framed s o t (fieldLocs frame_1_writes args s ++ arrayLocs frame_1_arrays args s ++ staticLocs frame_1_statics s) 600096 7301386 := h
theorem lw_limb (L : Cond) (hL : ∀ (args : Array Value) (s t : State), L.after args s (.returned (some (.int 1))) t = true) :
    ArmFor flags0 classFile x code maxLocals ret World_1 tables_1 room_1 Calls_1 rest_1 Pre_1
      (fun tb e a s o t => postC L tb e a s o t ∧ Framed s o t (fieldLocs frame_1_writes a s ++ arrayLocs frame_1_arrays a s ++ staticLocs frame_1_statics s) 600096 7301386) := by
  intro l hflags _ _ p e ha hc hk s m args below hf hfit hheap happ hpre
  obtain ⟨k, o, h1, h2, h3, rfl, hF⟩ := lw_comes l hflags p e ha hc hk s m args below hf hfit hheap happ hpre
  exact ⟨k, _, h1, h2, h3, hL args s _, lw_frame hF⟩
theorem i_vc : Claimed_1_1 ∧ Claimed_1_2 := ⟨lw_limb limb_1_1 (fun args s t => by simp [limb_1_1, Cond.after, Cond.holds, Cond.value]), lw_limb limb_1_2 (fun args s t => Cond.after_iff.mpr (by
  first | (rw [show limb_1_2 = Cond.eq .result (.int 1) from rfl, Cond.eq_ints (x := 1) (y := 1) rfl rfl]; simp; done) | (simp [limb_1_2, Cond.value, Term.eval]; done)))⟩
end
