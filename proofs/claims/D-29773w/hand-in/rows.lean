section
-- ===== PART A: goes FIRST, ahead of the names: the tables' words, and 'selects' of the private methods out of them =====
/-- a private method of a class that the tables say can be made, by its rows of tables_1 -/
def lw_okq (q : MethodName × Nat) : Prop := (q.1.cls ≠ "java/lang/invoke/MethodHandle" ∧ q.1.cls ≠ "java/lang/invoke/VarHandle") ∧ Cond.instantiable q.1.cls q.2 ∈ tables_1 ∧ Cond.privateMethod q.1 ∈ tables_1 ∧ Cond.instanceMethod q.1 ∈ tables_1
set_option maxRecDepth 100000
theorem lw_t1 {w : Cond} (h : w ∈ tables_1_1) : w ∈ tables_1 := List.mem_append_left _ h
theorem lw_t2 {w : Cond} (h : w ∈ tables_1_2) : w ∈ tables_1 := List.mem_append_right _ h
theorem lw_p0 : lw_okq (⟨"SeedDesk", "run", "(ZI)V"⟩, 3) := ⟨⟨by decide +kernel, by decide +kernel⟩, lw_t1 (List.mem_of_getElem? (i := 20) rfl), lw_t1 (List.mem_of_getElem? (i := 18) rfl), lw_t1 (List.mem_of_getElem? (i := 19) rfl)⟩
theorem lw_p1 : lw_okq (⟨"SEEDEngine", "createWorkingKey", "([B)[I"⟩, 3) := ⟨⟨by decide +kernel, by decide +kernel⟩, lw_t1 (List.mem_of_getElem? (i := 26) rfl), lw_t1 (List.mem_of_getElem? (i := 79) rfl), lw_t1 (List.mem_of_getElem? (i := 80) rfl)⟩
theorem lw_p2 : lw_okq (⟨"java/lang/Throwable", "fillInStackTrace", "(I)Ljava/lang/Throwable;"⟩, 6) := ⟨⟨by decide +kernel, by decide +kernel⟩, lw_t1 (List.mem_of_getElem? (i := 122) rfl), lw_t1 (List.mem_of_getElem? (i := 120) rfl), lw_t1 (List.mem_of_getElem? (i := 121) rfl)⟩
theorem lw_p3 : lw_okq (⟨"SEEDEngine", "bytesToLong", "([BI)J"⟩, 3) := ⟨⟨by decide +kernel, by decide +kernel⟩, lw_t1 (List.mem_of_getElem? (i := 26) rfl), lw_t1 (List.mem_of_getElem? (i := 151) rfl), lw_t1 (List.mem_of_getElem? (i := 152) rfl)⟩
theorem lw_p4 : lw_okq (⟨"SEEDEngine", "extractW0", "(J)I"⟩, 3) := ⟨⟨by decide +kernel, by decide +kernel⟩, lw_t1 (List.mem_of_getElem? (i := 26) rfl), lw_t1 (List.mem_of_getElem? (i := 155) rfl), lw_t1 (List.mem_of_getElem? (i := 156) rfl)⟩
theorem lw_p5 : lw_okq (⟨"SEEDEngine", "extractW1", "(J)I"⟩, 3) := ⟨⟨by decide +kernel, by decide +kernel⟩, lw_t1 (List.mem_of_getElem? (i := 26) rfl), lw_t1 (List.mem_of_getElem? (i := 159) rfl), lw_t1 (List.mem_of_getElem? (i := 160) rfl)⟩
theorem lw_p6 : lw_okq (⟨"SEEDEngine", "G", "(I)I"⟩, 3) := ⟨⟨by decide +kernel, by decide +kernel⟩, lw_t1 (List.mem_of_getElem? (i := 26) rfl), lw_t1 (List.mem_of_getElem? (i := 165) rfl), lw_t1 (List.mem_of_getElem? (i := 166) rfl)⟩
theorem lw_p7 : lw_okq (⟨"SEEDEngine", "rotateRight8", "(J)J"⟩, 3) := ⟨⟨by decide +kernel, by decide +kernel⟩, lw_t1 (List.mem_of_getElem? (i := 26) rfl), lw_t1 (List.mem_of_getElem? (i := 177) rfl), lw_t1 (List.mem_of_getElem? (i := 178) rfl)⟩
theorem lw_p8 : lw_okq (⟨"SEEDEngine", "rotateLeft8", "(J)J"⟩, 3) := ⟨⟨by decide +kernel, by decide +kernel⟩, lw_t1 (List.mem_of_getElem? (i := 26) rfl), lw_t1 (List.mem_of_getElem? (i := 181) rfl), lw_t1 (List.mem_of_getElem? (i := 182) rfl)⟩
theorem lw_p9 : lw_okq (⟨"SEEDEngine", "F", "(IIJ)J"⟩, 3) := ⟨⟨by decide +kernel, by decide +kernel⟩, lw_t1 (List.mem_of_getElem? (i := 26) rfl), lw_t2 (List.mem_of_getElem? (i := 8) rfl), lw_t2 (List.mem_of_getElem? (i := 9) rfl)⟩
theorem lw_p10 : lw_okq (⟨"SEEDEngine", "phaseCalc2", "(IIII)I"⟩, 3) := ⟨⟨by decide +kernel, by decide +kernel⟩, lw_t1 (List.mem_of_getElem? (i := 26) rfl), lw_t2 (List.mem_of_getElem? (i := 12) rfl), lw_t2 (List.mem_of_getElem? (i := 13) rfl)⟩
theorem lw_p11 : lw_okq (⟨"SEEDEngine", "phaseCalc1", "(IIII)I"⟩, 3) := ⟨⟨by decide +kernel, by decide +kernel⟩, lw_t1 (List.mem_of_getElem? (i := 26) rfl), lw_t2 (List.mem_of_getElem? (i := 16) rfl), lw_t2 (List.mem_of_getElem? (i := 17) rfl)⟩
theorem lw_p12 : lw_okq (⟨"SEEDEngine", "longToBytes", "([BIJ)V"⟩, 3) := ⟨⟨by decide +kernel, by decide +kernel⟩, lw_t1 (List.mem_of_getElem? (i := 26) rfl), lw_t2 (List.mem_of_getElem? (i := 21) rfl), lw_t2 (List.mem_of_getElem? (i := 22) rfl)⟩
def lw_privs_1 : List (MethodName × Nat) := [(⟨"SeedDesk", "run", "(ZI)V"⟩, 3), (⟨"SEEDEngine", "createWorkingKey", "([B)[I"⟩, 3), (⟨"java/lang/Throwable", "fillInStackTrace", "(I)Ljava/lang/Throwable;"⟩, 6), (⟨"SEEDEngine", "bytesToLong", "([BI)J"⟩, 3), (⟨"SEEDEngine", "extractW0", "(J)I"⟩, 3), (⟨"SEEDEngine", "extractW1", "(J)I"⟩, 3), (⟨"SEEDEngine", "G", "(I)I"⟩, 3), (⟨"SEEDEngine", "rotateRight8", "(J)J"⟩, 3), (⟨"SEEDEngine", "rotateLeft8", "(J)J"⟩, 3), (⟨"SEEDEngine", "F", "(IIJ)J"⟩, 3), (⟨"SEEDEngine", "phaseCalc2", "(IIII)I"⟩, 3), (⟨"SEEDEngine", "phaseCalc1", "(IIII)I"⟩, 3), (⟨"SEEDEngine", "longToBytes", "([BIJ)V"⟩, 3)]
theorem lw_r1 : ∀ q ∈ lw_privs_1, lw_okq q := List.forall_mem_cons.mpr ⟨lw_p0, List.forall_mem_cons.mpr ⟨lw_p1, List.forall_mem_cons.mpr ⟨lw_p2, List.forall_mem_cons.mpr ⟨lw_p3, List.forall_mem_cons.mpr ⟨lw_p4, List.forall_mem_cons.mpr ⟨lw_p5, List.forall_mem_cons.mpr ⟨lw_p6, List.forall_mem_cons.mpr ⟨lw_p7, List.forall_mem_cons.mpr ⟨lw_p8, List.forall_mem_cons.mpr ⟨lw_p9, List.forall_mem_cons.mpr ⟨lw_p10, List.forall_mem_cons.mpr ⟨lw_p11, List.forall_mem_cons.mpr ⟨lw_p12, fun _ h => absurd h List.not_mem_nil⟩⟩⟩⟩⟩⟩⟩⟩⟩⟩⟩⟩⟩
def lw_privs : List (MethodName × Nat) := lw_privs_1
def lw_tbl : List Cond := k2_sels lw_privs ++ tables_1
theorem lw_privs_ok : ∀ q ∈ lw_privs, lw_okq q := lw_r1
-- ===== ONE list of words for every method: the tables' words that hold all through a run =====
def lw_all : List Cond := lw_tbl.filter goodWord
/-- a word of the tables by its place: claim/WORDS.tsv -/
theorem lw_w {w : Cond} (i : Nat) (h : lw_tbl[i]? = some w) (g : goodWord w = true) : w ∈ lw_all := List.mem_filter.mpr ⟨List.mem_of_getElem? h, g⟩
theorem lw_all_tbl {w : Cond} (h : w ∈ lw_all) : w ∈ lw_tbl := (List.mem_filter.mp h).1
theorem lw_self : GoodIn lw_all lw_all := fun w h => ⟨h, good_of_word (List.mem_filter.mp h).2⟩
/-- a class's field words, by their places -/
theorem lw_in (ws : List Cond) (ps : List Nat) (hp : ws = ps.filterMap (fun i => lw_tbl[i]?)) (hg : ws.all goodWord = true) : ∀ w ∈ ws, w ∈ lw_all := by
  intro w h
  have h1 := List.all_eq_true.mp hg w h
  rw [hp] at h
  obtain ⟨i, -, hi⟩ := List.mem_filterMap.mp h
  exact lw_w i hi h1
/-- the words of a contract for the method y with code b, L locals, answer r -/
abbrev ws_ (y : MethodName) (b : ByteArray) (L : Nat) (r : Option FieldType) : List Cond := Cond.code y b L r :: lw_all
theorem lw_meth {y : MethodName} {b : ByteArray} {L : Nat} {r : Option FieldType} (h : Cond.code y b L r ∈ lw_all) : GoodIn lw_all (ws_ y b L r) := by
  intro w hw
  rcases List.mem_cons.mp hw with e | e
  · rw [e]
    exact lw_self _ h
  · exact lw_self _ e
theorem lw_app {a c : List Cond} (ha : ∀ w ∈ a, w ∈ lw_all) (hc : GoodIn lw_all c) : GoodIn lw_all (a ++ c) := by
  intro w hw
  rcases List.mem_append.mp hw with e | e
  · exact lw_self w (ha w e)
  · exact hc w e
/-- what a call through an object asks: cwV n hts (lw_V ..) -/
theorem lw_V {own : String} {idx : Nat} {C : String} {y : MethodName} {b : ByteArray} {L : Nat} {r : Option FieldType} (h1 : Cond.methodLink own idx y ∈ lw_all) (h2 : Cond.instanceMethod y ∈ lw_all) (h3 : Cond.selects C y y ∈ lw_all) (h4 : Cond.initialized C ∈ lw_all) (h5 : Cond.code y b L r ∈ lw_all) : GoodIn lw_all (wsV own idx C y (ws_ y b L r)) := by
  refine lw_app ?_ (lw_meth h5)
  intro w hw
  simp only [List.mem_cons, List.not_mem_nil, or_false] at hw
  rcases hw with e | e | e | e
  · rw [e]; exact h1
  · rw [e]; exact h2
  · rw [e]; exact h3
  · rw [e]; exact h4
/-- what a static call asks: va_cwS n hts (lw_S ..) -/
theorem lw_S {own : String} {idx : Nat} {y : MethodName} {b : ByteArray} {L : Nat} {r : Option FieldType} (h1 : Cond.methodLink own idx y ∈ lw_all) (h2 : Cond.static y ∈ lw_all) (h3 : Cond.initialized y.cls ∈ lw_all) (h4 : Cond.code y b L r ∈ lw_all) : GoodIn lw_all (va_wsS own idx y (ws_ y b L r)) := by
  refine lw_app ?_ (lw_meth h4)
  intro w hw
  simp only [List.mem_cons, List.not_mem_nil, or_false] at hw
  rcases hw with e | e | e
  · rw [e]; exact h1
  · rw [e]; exact h2
  · rw [e]; exact h3
/-- the words of a contract for a method WITH HANDLERS (hh: its table) -/
abbrev wsW_ (y : MethodName) (b : ByteArray) (L : Nat) (r : Option FieldType) (hh : List (Nat × Nat × Nat × Nat)) : List Cond := Cond.codeWith y b L r hh :: lw_all
theorem lw_methW {y : MethodName} {b : ByteArray} {L : Nat} {r : Option FieldType} {hh : List (Nat × Nat × Nat × Nat)} (h : Cond.codeWith y b L r hh ∈ lw_all) : GoodIn lw_all (wsW_ y b L r hh) := by
  intro w hw
  rcases List.mem_cons.mp hw with e | e
  · rw [e]
    exact lw_self _ h
  · exact lw_self _ e
/-- any list of words by their places (lw_in), good -/
theorem lw_good {ws : List Cond} (h : ∀ w ∈ ws, w ∈ lw_all) : GoodIn lw_all ws := fun w hw => lw_self w (h w hw)
/-- what a call of a method with handlers asks: vx_cwVW n hts (lw_VW ..), vx_cwSW n hts (lw_SW ..) -/
theorem lw_VW {own : String} {idx : Nat} {C : String} {y : MethodName} {b : ByteArray} {L : Nat} {r : Option FieldType} {hh : List (Nat × Nat × Nat × Nat)} (h1 : Cond.methodLink own idx y ∈ lw_all) (h2 : Cond.instanceMethod y ∈ lw_all) (h3 : Cond.selects C y y ∈ lw_all) (h4 : Cond.initialized C ∈ lw_all) (h5 : Cond.codeWith y b L r hh ∈ lw_all) : GoodIn lw_all (wsV own idx C y (wsW_ y b L r hh)) := by
  refine lw_app ?_ (lw_methW h5)
  intro w hw
  simp only [List.mem_cons, List.not_mem_nil, or_false] at hw
  rcases hw with e | e | e | e
  · rw [e]; exact h1
  · rw [e]; exact h2
  · rw [e]; exact h3
  · rw [e]; exact h4
theorem lw_SW {own : String} {idx : Nat} {y : MethodName} {b : ByteArray} {L : Nat} {r : Option FieldType} {hh : List (Nat × Nat × Nat × Nat)} (h1 : Cond.methodLink own idx y ∈ lw_all) (h2 : Cond.static y ∈ lw_all) (h3 : Cond.initialized y.cls ∈ lw_all) (h4 : Cond.codeWith y b L r hh ∈ lw_all) : GoodIn lw_all (va_wsS own idx y (wsW_ y b L r hh)) := by
  refine lw_app ?_ (lw_methW h4)
  intro w hw
  simp only [List.mem_cons, List.not_mem_nil, or_false] at hw
  rcases hw with e | e | e
  · rw [e]; exact h1
  · rw [e]; exact h2
  · rw [e]; exact h3
/-- a word by its place in its run of the tables -/
theorem lw_at {r : List Cond} (hr : ∀ w ∈ r, w ∈ lw_tbl) {w : Cond} (i : Nat) (h : r[i]? = some w) : w ∈ lw_tbl := hr w (List.mem_of_getElem? h)
theorem lw_g {w : Cond} (h : w ∈ lw_tbl) (g : goodWord w = true) : w ∈ lw_all := List.mem_filter.mpr ⟨h, g⟩
theorem lw_ms : ∀ w ∈ k2_sels lw_privs, w ∈ lw_tbl := fun w h => show w ∈ k2_sels lw_privs ++ tables_1 from List.mem_append_left _ h
theorem lw_m1 : ∀ w ∈ tables_1_1, w ∈ lw_tbl := fun w h => show w ∈ k2_sels lw_privs ++ tables_1 from List.mem_append_right (k2_sels lw_privs) (show w ∈ tables_1 from List.mem_append_left _ h)
theorem lw_m2 : ∀ w ∈ tables_1_2, w ∈ lw_tbl := fun w h => show w ∈ k2_sels lw_privs ++ tables_1 from List.mem_append_right (k2_sels lw_privs) (show w ∈ tables_1 from List.mem_append_right _ h)
theorem qs0 : (Cond.selects "SeedDesk" ⟨"SeedDesk", "run", "(ZI)V"⟩ ⟨"SeedDesk", "run", "(ZI)V"⟩) ∈ lw_all := lw_g (lw_at lw_ms 0 rfl) rfl
theorem qs1 : (Cond.selects "SEEDEngine" ⟨"SEEDEngine", "createWorkingKey", "([B)[I"⟩ ⟨"SEEDEngine", "createWorkingKey", "([B)[I"⟩) ∈ lw_all := lw_g (lw_at lw_ms 1 rfl) rfl
theorem qs2 : (Cond.selects "java/lang/Throwable" ⟨"java/lang/Throwable", "fillInStackTrace", "(I)Ljava/lang/Throwable;"⟩ ⟨"java/lang/Throwable", "fillInStackTrace", "(I)Ljava/lang/Throwable;"⟩) ∈ lw_all := lw_g (lw_at lw_ms 2 rfl) rfl
theorem qs3 : (Cond.selects "SEEDEngine" ⟨"SEEDEngine", "bytesToLong", "([BI)J"⟩ ⟨"SEEDEngine", "bytesToLong", "([BI)J"⟩) ∈ lw_all := lw_g (lw_at lw_ms 3 rfl) rfl
theorem qs4 : (Cond.selects "SEEDEngine" ⟨"SEEDEngine", "extractW0", "(J)I"⟩ ⟨"SEEDEngine", "extractW0", "(J)I"⟩) ∈ lw_all := lw_g (lw_at lw_ms 4 rfl) rfl
theorem qs5 : (Cond.selects "SEEDEngine" ⟨"SEEDEngine", "extractW1", "(J)I"⟩ ⟨"SEEDEngine", "extractW1", "(J)I"⟩) ∈ lw_all := lw_g (lw_at lw_ms 5 rfl) rfl
theorem qs6 : (Cond.selects "SEEDEngine" ⟨"SEEDEngine", "G", "(I)I"⟩ ⟨"SEEDEngine", "G", "(I)I"⟩) ∈ lw_all := lw_g (lw_at lw_ms 6 rfl) rfl
theorem qs7 : (Cond.selects "SEEDEngine" ⟨"SEEDEngine", "rotateRight8", "(J)J"⟩ ⟨"SEEDEngine", "rotateRight8", "(J)J"⟩) ∈ lw_all := lw_g (lw_at lw_ms 7 rfl) rfl
theorem qs8 : (Cond.selects "SEEDEngine" ⟨"SEEDEngine", "rotateLeft8", "(J)J"⟩ ⟨"SEEDEngine", "rotateLeft8", "(J)J"⟩) ∈ lw_all := lw_g (lw_at lw_ms 8 rfl) rfl
theorem qs9 : (Cond.selects "SEEDEngine" ⟨"SEEDEngine", "F", "(IIJ)J"⟩ ⟨"SEEDEngine", "F", "(IIJ)J"⟩) ∈ lw_all := lw_g (lw_at lw_ms 9 rfl) rfl
theorem qs10 : (Cond.selects "SEEDEngine" ⟨"SEEDEngine", "phaseCalc2", "(IIII)I"⟩ ⟨"SEEDEngine", "phaseCalc2", "(IIII)I"⟩) ∈ lw_all := lw_g (lw_at lw_ms 10 rfl) rfl
theorem qs11 : (Cond.selects "SEEDEngine" ⟨"SEEDEngine", "phaseCalc1", "(IIII)I"⟩ ⟨"SEEDEngine", "phaseCalc1", "(IIII)I"⟩) ∈ lw_all := lw_g (lw_at lw_ms 11 rfl) rfl
theorem qs12 : (Cond.selects "SEEDEngine" ⟨"SEEDEngine", "longToBytes", "([BIJ)V"⟩ ⟨"SEEDEngine", "longToBytes", "([BIJ)V"⟩) ∈ lw_all := lw_g (lw_at lw_ms 12 rfl) rfl
end
section
/-! DECODE ROWS BY BYTES: one lemma an opcode; a method's code is cut into short pieces once, and a row reads its own piece alone. -/
set_option maxRecDepth 100000
/-- the code has just these bytes from pc on -/
def DkAt (code : ByteArray) (pc : Nat) (bs : List UInt8) : Prop := ∀ (j : Nat) (b : UInt8), bs[j]? = some b → code.data.toList[pc + j]? = some b
/-- the piece W has the bytes bs from its place j on -/
def dkIn (W : List UInt8) (j : Nat) (bs : List UInt8) : Bool := decide ((W.drop j).take bs.length = bs)
theorem dk_seg {l W T : List UInt8} {o o2 : Nat} (h : l.drop o = W ++ T) (n : Nat) (hn : W.length = n) (ho : o + n = o2) : l.drop o2 = T := by
  subst ho
  rw [← List.drop_drop, h, List.drop_left' hn]
theorem dk_at {code : ByteArray} {W T bs : List UInt8} {o pc : Nat} (h : code.data.toList.drop o = W ++ T) (j : Nat) (hp : o + j = pc) (hw : dkIn W j bs = true) : DkAt code pc bs := by
  subst hp
  intro i b e
  have h1 := of_decide_eq_true hw
  have h2 : i < bs.length := (List.getElem?_eq_some_iff.mp e).1
  have h3 : W[j + i]? = some b := by
    rw [← h1, List.getElem?_take, if_pos h2, List.getElem?_drop] at e
    exact e
  have h4 : j + i < W.length := (List.getElem?_eq_some_iff.mp h3).1
  have h5 : (code.data.toList.drop o)[j + i]? = some b := by
    rw [h, List.getElem?_append_left h4]
    exact h3
  rw [List.getElem?_drop, ← Nat.add_assoc] at h5
  exact h5
theorem dk_u1 {A : ByteArray} {p : Nat} {b : UInt8} (h : A.data.toList[p]? = some b) : (Reader.u1 : Reader DecodeError Nat) A p = .ok (b.toNat, p + 1) := by
  obtain ⟨h1, h2⟩ := List.getElem?_eq_some_iff.mp h
  have h3 : p < A.size := by simpa using h1
  have h4 : A[p]'h3 = b := h2
  have e : (Reader.u1 : Reader DecodeError Nat) A p = (if h : p < A.size then .ok (A[p].toNat, p + 1) else .error (HasTruncated.truncated p)) := by
    show (do if h : p < A.size then do set (p + 1); Pure.pure A[p].toNat else MonadExcept.throw (HasTruncated.truncated p) : Reader DecodeError Nat) A p = _
    by_cases hi : p < A.size
    · rw [dif_pos hi, dif_pos hi]; rfl
    · rw [dif_neg hi, dif_neg hi]; rfl
  rw [e, dif_pos h3, h4]
theorem dk_bind {α β : Type} {r : Reader DecodeError α} {f : α → Reader DecodeError β} {A : ByteArray} {p s : Nat} {a : α} (h : r A p = .ok (a, s)) : (r >>= f) A p = f a A s := by
  show (do let (a, s) ← r A p; f a A s : Except DecodeError (β × Nat)) = _
  rw [h]
  rfl
theorem dk_map {α β : Type} {r : Reader DecodeError α} {g : α → β} {A : ByteArray} {p s : Nat} {a : α} (h : r A p = .ok (a, s)) : (g <$> r) A p = .ok (g a, s) := by
  show (do let (a, s) ← r A p; .ok (g a, s) : Except DecodeError (β × Nat)) = _
  rw [h]
  rfl
theorem dk_u2 {A : ByteArray} {p : Nat} {a b : UInt8} (h : A.data.toList[p]? = some a) (h2 : A.data.toList[p + 1]? = some b) : (Reader.u2 : Reader DecodeError Nat) A p = .ok (a.toNat * 256 + b.toNat, p + 2) := by
  show (Reader.u1 >>= fun hi => Reader.u1 >>= fun lo => Pure.pure (hi * 256 + lo) : Reader DecodeError Nat) A p = _
  rw [dk_bind (dk_u1 h), dk_bind (dk_u1 h2)]
  rfl
theorem dk_of {code : ByteArray} {pc n : Nat} {i : Instr} (h : Decoder.instr pc code pc = .ok (i, pc + n)) : decode code pc = .ok (i, n) := by
  have e : decode code pc = (match Decoder.instr pc code pc with | .error x => .error x | .ok (j, s) => .ok (j, s - pc)) := by
    show (do let (j, s) ← Decoder.instr pc code pc; Pure.pure (j, s - pc) : Except DecodeError (Instr × Nat)) = _
    cases Decoder.instr pc code pc <;> rfl
  rw [e, h]
  show Except.ok (i, pc + n - pc) = _
  rw [Nat.add_sub_cancel_left]
theorem dk_3 {code : ByteArray} {pc : Nat} (h : DkAt code pc [3]) : decode code pc = .ok (.iconst 0, 1) := dk_of ((dk_bind (dk_u1 (h 0 _ rfl))).trans rfl)
theorem dk_4 {code : ByteArray} {pc : Nat} (h : DkAt code pc [4]) : decode code pc = .ok (.iconst 1, 1) := dk_of ((dk_bind (dk_u1 (h 0 _ rfl))).trans rfl)
theorem dk_5 {code : ByteArray} {pc : Nat} (h : DkAt code pc [5]) : decode code pc = .ok (.iconst 2, 1) := dk_of ((dk_bind (dk_u1 (h 0 _ rfl))).trans rfl)
theorem dk_6 {code : ByteArray} {pc : Nat} (h : DkAt code pc [6]) : decode code pc = .ok (.iconst 3, 1) := dk_of ((dk_bind (dk_u1 (h 0 _ rfl))).trans rfl)
theorem dk_7 {code : ByteArray} {pc : Nat} (h : DkAt code pc [7]) : decode code pc = .ok (.iconst 4, 1) := dk_of ((dk_bind (dk_u1 (h 0 _ rfl))).trans rfl)
theorem dk_8 {code : ByteArray} {pc : Nat} (h : DkAt code pc [8]) : decode code pc = .ok (.iconst 5, 1) := dk_of ((dk_bind (dk_u1 (h 0 _ rfl))).trans rfl)
theorem dk_9 {code : ByteArray} {pc : Nat} (h : DkAt code pc [9]) : decode code pc = .ok (.lconst 0, 1) := dk_of ((dk_bind (dk_u1 (h 0 _ rfl))).trans rfl)
theorem dk_16 {code : ByteArray} {pc : Nat} (a : UInt8) (h : DkAt code pc [16, a]) : decode code pc = .ok (.bipush (Reader.signed 8 a.toNat), 2) := dk_of ((dk_bind (dk_u1 (h 0 _ rfl))).trans ((dk_bind (dk_map (dk_u1 (h 1 _ rfl)))).trans rfl))
theorem dk_17 {code : ByteArray} {pc : Nat} (a b : UInt8) (h : DkAt code pc [17, a, b]) : decode code pc = .ok (.sipush (Reader.signed 16 (a.toNat * 256 + b.toNat)), 3) := dk_of ((dk_bind (dk_u1 (h 0 _ rfl))).trans ((dk_bind (dk_map (dk_u2 (h 1 _ rfl) (h 2 _ rfl)))).trans rfl))
theorem dk_18 {code : ByteArray} {pc : Nat} (a : UInt8) (h : DkAt code pc [18, a]) : decode code pc = .ok (.ldc a.toNat, 2) := dk_of ((dk_bind (dk_u1 (h 0 _ rfl))).trans ((dk_bind (dk_u1 (h 1 _ rfl))).trans rfl))
theorem dk_20 {code : ByteArray} {pc : Nat} (a b : UInt8) (h : DkAt code pc [20, a, b]) : decode code pc = .ok (.ldc2_w (a.toNat * 256 + b.toNat), 3) := dk_of ((dk_bind (dk_u1 (h 0 _ rfl))).trans ((dk_bind (dk_u2 (h 1 _ rfl) (h 2 _ rfl))).trans rfl))
theorem dk_21 {code : ByteArray} {pc : Nat} (a : UInt8) (h : DkAt code pc [21, a]) : decode code pc = .ok (.iload a.toNat, 2) := dk_of ((dk_bind (dk_u1 (h 0 _ rfl))).trans ((dk_bind (dk_u1 (h 1 _ rfl))).trans rfl))
theorem dk_22 {code : ByteArray} {pc : Nat} (a : UInt8) (h : DkAt code pc [22, a]) : decode code pc = .ok (.lload a.toNat, 2) := dk_of ((dk_bind (dk_u1 (h 0 _ rfl))).trans ((dk_bind (dk_u1 (h 1 _ rfl))).trans rfl))
theorem dk_25 {code : ByteArray} {pc : Nat} (a : UInt8) (h : DkAt code pc [25, a]) : decode code pc = .ok (.aload a.toNat, 2) := dk_of ((dk_bind (dk_u1 (h 0 _ rfl))).trans ((dk_bind (dk_u1 (h 1 _ rfl))).trans rfl))
theorem dk_27 {code : ByteArray} {pc : Nat} (h : DkAt code pc [27]) : decode code pc = .ok (.iload_n 1, 1) := dk_of ((dk_bind (dk_u1 (h 0 _ rfl))).trans rfl)
theorem dk_28 {code : ByteArray} {pc : Nat} (h : DkAt code pc [28]) : decode code pc = .ok (.iload_n 2, 1) := dk_of ((dk_bind (dk_u1 (h 0 _ rfl))).trans rfl)
theorem dk_29 {code : ByteArray} {pc : Nat} (h : DkAt code pc [29]) : decode code pc = .ok (.iload_n 3, 1) := dk_of ((dk_bind (dk_u1 (h 0 _ rfl))).trans rfl)
theorem dk_31 {code : ByteArray} {pc : Nat} (h : DkAt code pc [31]) : decode code pc = .ok (.lload_n 1, 1) := dk_of ((dk_bind (dk_u1 (h 0 _ rfl))).trans rfl)
theorem dk_33 {code : ByteArray} {pc : Nat} (h : DkAt code pc [33]) : decode code pc = .ok (.lload_n 3, 1) := dk_of ((dk_bind (dk_u1 (h 0 _ rfl))).trans rfl)
theorem dk_42 {code : ByteArray} {pc : Nat} (h : DkAt code pc [42]) : decode code pc = .ok (.aload_n 0, 1) := dk_of ((dk_bind (dk_u1 (h 0 _ rfl))).trans rfl)
theorem dk_43 {code : ByteArray} {pc : Nat} (h : DkAt code pc [43]) : decode code pc = .ok (.aload_n 1, 1) := dk_of ((dk_bind (dk_u1 (h 0 _ rfl))).trans rfl)
theorem dk_44 {code : ByteArray} {pc : Nat} (h : DkAt code pc [44]) : decode code pc = .ok (.aload_n 2, 1) := dk_of ((dk_bind (dk_u1 (h 0 _ rfl))).trans rfl)
theorem dk_45 {code : ByteArray} {pc : Nat} (h : DkAt code pc [45]) : decode code pc = .ok (.aload_n 3, 1) := dk_of ((dk_bind (dk_u1 (h 0 _ rfl))).trans rfl)
theorem dk_46 {code : ByteArray} {pc : Nat} (h : DkAt code pc [46]) : decode code pc = .ok (.iaload, 1) := dk_of ((dk_bind (dk_u1 (h 0 _ rfl))).trans rfl)
theorem dk_51 {code : ByteArray} {pc : Nat} (h : DkAt code pc [51]) : decode code pc = .ok (.baload, 1) := dk_of ((dk_bind (dk_u1 (h 0 _ rfl))).trans rfl)
theorem dk_54 {code : ByteArray} {pc : Nat} (a : UInt8) (h : DkAt code pc [54, a]) : decode code pc = .ok (.istore a.toNat, 2) := dk_of ((dk_bind (dk_u1 (h 0 _ rfl))).trans ((dk_bind (dk_u1 (h 1 _ rfl))).trans rfl))
theorem dk_55 {code : ByteArray} {pc : Nat} (a : UInt8) (h : DkAt code pc [55, a]) : decode code pc = .ok (.lstore a.toNat, 2) := dk_of ((dk_bind (dk_u1 (h 0 _ rfl))).trans ((dk_bind (dk_u1 (h 1 _ rfl))).trans rfl))
theorem dk_58 {code : ByteArray} {pc : Nat} (a : UInt8) (h : DkAt code pc [58, a]) : decode code pc = .ok (.astore a.toNat, 2) := dk_of ((dk_bind (dk_u1 (h 0 _ rfl))).trans ((dk_bind (dk_u1 (h 1 _ rfl))).trans rfl))
theorem dk_60 {code : ByteArray} {pc : Nat} (h : DkAt code pc [60]) : decode code pc = .ok (.istore_n 1, 1) := dk_of ((dk_bind (dk_u1 (h 0 _ rfl))).trans rfl)
theorem dk_61 {code : ByteArray} {pc : Nat} (h : DkAt code pc [61]) : decode code pc = .ok (.istore_n 2, 1) := dk_of ((dk_bind (dk_u1 (h 0 _ rfl))).trans rfl)
theorem dk_62 {code : ByteArray} {pc : Nat} (h : DkAt code pc [62]) : decode code pc = .ok (.istore_n 3, 1) := dk_of ((dk_bind (dk_u1 (h 0 _ rfl))).trans rfl)
theorem dk_66 {code : ByteArray} {pc : Nat} (h : DkAt code pc [66]) : decode code pc = .ok (.lstore_n 3, 1) := dk_of ((dk_bind (dk_u1 (h 0 _ rfl))).trans rfl)
theorem dk_75 {code : ByteArray} {pc : Nat} (h : DkAt code pc [75]) : decode code pc = .ok (.astore_n 0, 1) := dk_of ((dk_bind (dk_u1 (h 0 _ rfl))).trans rfl)
theorem dk_76 {code : ByteArray} {pc : Nat} (h : DkAt code pc [76]) : decode code pc = .ok (.astore_n 1, 1) := dk_of ((dk_bind (dk_u1 (h 0 _ rfl))).trans rfl)
theorem dk_77 {code : ByteArray} {pc : Nat} (h : DkAt code pc [77]) : decode code pc = .ok (.astore_n 2, 1) := dk_of ((dk_bind (dk_u1 (h 0 _ rfl))).trans rfl)
theorem dk_78 {code : ByteArray} {pc : Nat} (h : DkAt code pc [78]) : decode code pc = .ok (.astore_n 3, 1) := dk_of ((dk_bind (dk_u1 (h 0 _ rfl))).trans rfl)
theorem dk_79 {code : ByteArray} {pc : Nat} (h : DkAt code pc [79]) : decode code pc = .ok (.iastore, 1) := dk_of ((dk_bind (dk_u1 (h 0 _ rfl))).trans rfl)
theorem dk_84 {code : ByteArray} {pc : Nat} (h : DkAt code pc [84]) : decode code pc = .ok (.bastore, 1) := dk_of ((dk_bind (dk_u1 (h 0 _ rfl))).trans rfl)
theorem dk_87 {code : ByteArray} {pc : Nat} (h : DkAt code pc [87]) : decode code pc = .ok (.pop, 1) := dk_of ((dk_bind (dk_u1 (h 0 _ rfl))).trans rfl)
theorem dk_89 {code : ByteArray} {pc : Nat} (h : DkAt code pc [89]) : decode code pc = .ok (.dup, 1) := dk_of ((dk_bind (dk_u1 (h 0 _ rfl))).trans rfl)
theorem dk_96 {code : ByteArray} {pc : Nat} (h : DkAt code pc [96]) : decode code pc = .ok (.iadd, 1) := dk_of ((dk_bind (dk_u1 (h 0 _ rfl))).trans rfl)
theorem dk_97 {code : ByteArray} {pc : Nat} (h : DkAt code pc [97]) : decode code pc = .ok (.ladd, 1) := dk_of ((dk_bind (dk_u1 (h 0 _ rfl))).trans rfl)
theorem dk_100 {code : ByteArray} {pc : Nat} (h : DkAt code pc [100]) : decode code pc = .ok (.isub, 1) := dk_of ((dk_bind (dk_u1 (h 0 _ rfl))).trans rfl)
theorem dk_104 {code : ByteArray} {pc : Nat} (h : DkAt code pc [104]) : decode code pc = .ok (.imul, 1) := dk_of ((dk_bind (dk_u1 (h 0 _ rfl))).trans rfl)
theorem dk_108 {code : ByteArray} {pc : Nat} (h : DkAt code pc [108]) : decode code pc = .ok (.idiv, 1) := dk_of ((dk_bind (dk_u1 (h 0 _ rfl))).trans rfl)
theorem dk_112 {code : ByteArray} {pc : Nat} (h : DkAt code pc [112]) : decode code pc = .ok (.irem, 1) := dk_of ((dk_bind (dk_u1 (h 0 _ rfl))).trans rfl)
theorem dk_120 {code : ByteArray} {pc : Nat} (h : DkAt code pc [120]) : decode code pc = .ok (.ishl, 1) := dk_of ((dk_bind (dk_u1 (h 0 _ rfl))).trans rfl)
theorem dk_121 {code : ByteArray} {pc : Nat} (h : DkAt code pc [121]) : decode code pc = .ok (.lshl, 1) := dk_of ((dk_bind (dk_u1 (h 0 _ rfl))).trans rfl)
theorem dk_122 {code : ByteArray} {pc : Nat} (h : DkAt code pc [122]) : decode code pc = .ok (.ishr, 1) := dk_of ((dk_bind (dk_u1 (h 0 _ rfl))).trans rfl)
theorem dk_123 {code : ByteArray} {pc : Nat} (h : DkAt code pc [123]) : decode code pc = .ok (.lshr, 1) := dk_of ((dk_bind (dk_u1 (h 0 _ rfl))).trans rfl)
theorem dk_124 {code : ByteArray} {pc : Nat} (h : DkAt code pc [124]) : decode code pc = .ok (.iushr, 1) := dk_of ((dk_bind (dk_u1 (h 0 _ rfl))).trans rfl)
theorem dk_125 {code : ByteArray} {pc : Nat} (h : DkAt code pc [125]) : decode code pc = .ok (.lushr, 1) := dk_of ((dk_bind (dk_u1 (h 0 _ rfl))).trans rfl)
theorem dk_126 {code : ByteArray} {pc : Nat} (h : DkAt code pc [126]) : decode code pc = .ok (.iand, 1) := dk_of ((dk_bind (dk_u1 (h 0 _ rfl))).trans rfl)
theorem dk_127 {code : ByteArray} {pc : Nat} (h : DkAt code pc [127]) : decode code pc = .ok (.land, 1) := dk_of ((dk_bind (dk_u1 (h 0 _ rfl))).trans rfl)
theorem dk_129 {code : ByteArray} {pc : Nat} (h : DkAt code pc [129]) : decode code pc = .ok (.lor, 1) := dk_of ((dk_bind (dk_u1 (h 0 _ rfl))).trans rfl)
theorem dk_130 {code : ByteArray} {pc : Nat} (h : DkAt code pc [130]) : decode code pc = .ok (.ixor, 1) := dk_of ((dk_bind (dk_u1 (h 0 _ rfl))).trans rfl)
theorem dk_131 {code : ByteArray} {pc : Nat} (h : DkAt code pc [131]) : decode code pc = .ok (.lxor, 1) := dk_of ((dk_bind (dk_u1 (h 0 _ rfl))).trans rfl)
theorem dk_132 {code : ByteArray} {pc : Nat} (a b : UInt8) (h : DkAt code pc [132, a, b]) : decode code pc = .ok (.iinc a.toNat (Reader.signed 8 b.toNat), 3) := dk_of ((dk_bind (dk_u1 (h 0 _ rfl))).trans ((dk_bind (dk_u1 (h 1 _ rfl))).trans ((dk_bind (dk_map (dk_u1 (h 2 _ rfl)))).trans rfl)))
theorem dk_133 {code : ByteArray} {pc : Nat} (h : DkAt code pc [133]) : decode code pc = .ok (.i2l, 1) := dk_of ((dk_bind (dk_u1 (h 0 _ rfl))).trans rfl)
theorem dk_136 {code : ByteArray} {pc : Nat} (h : DkAt code pc [136]) : decode code pc = .ok (.l2i, 1) := dk_of ((dk_bind (dk_u1 (h 0 _ rfl))).trans rfl)
theorem dk_145 {code : ByteArray} {pc : Nat} (h : DkAt code pc [145]) : decode code pc = .ok (.i2b, 1) := dk_of ((dk_bind (dk_u1 (h 0 _ rfl))).trans rfl)
theorem dk_153 {code : ByteArray} {pc : Nat} (a b : UInt8) (h : DkAt code pc [153, a, b]) : decode code pc = .ok (.ifCond .eq (Reader.signed 16 (a.toNat * 256 + b.toNat)), 3) := dk_of ((dk_bind (dk_u1 (h 0 _ rfl))).trans ((dk_bind (dk_map (dk_u2 (h 1 _ rfl) (h 2 _ rfl)))).trans rfl))
theorem dk_154 {code : ByteArray} {pc : Nat} (a b : UInt8) (h : DkAt code pc [154, a, b]) : decode code pc = .ok (.ifCond .ne (Reader.signed 16 (a.toNat * 256 + b.toNat)), 3) := dk_of ((dk_bind (dk_u1 (h 0 _ rfl))).trans ((dk_bind (dk_map (dk_u2 (h 1 _ rfl) (h 2 _ rfl)))).trans rfl))
theorem dk_155 {code : ByteArray} {pc : Nat} (a b : UInt8) (h : DkAt code pc [155, a, b]) : decode code pc = .ok (.ifCond .lt (Reader.signed 16 (a.toNat * 256 + b.toNat)), 3) := dk_of ((dk_bind (dk_u1 (h 0 _ rfl))).trans ((dk_bind (dk_map (dk_u2 (h 1 _ rfl) (h 2 _ rfl)))).trans rfl))
theorem dk_159 {code : ByteArray} {pc : Nat} (a b : UInt8) (h : DkAt code pc [159, a, b]) : decode code pc = .ok (.if_icmp .eq (Reader.signed 16 (a.toNat * 256 + b.toNat)), 3) := dk_of ((dk_bind (dk_u1 (h 0 _ rfl))).trans ((dk_bind (dk_map (dk_u2 (h 1 _ rfl) (h 2 _ rfl)))).trans rfl))
theorem dk_162 {code : ByteArray} {pc : Nat} (a b : UInt8) (h : DkAt code pc [162, a, b]) : decode code pc = .ok (.if_icmp .ge (Reader.signed 16 (a.toNat * 256 + b.toNat)), 3) := dk_of ((dk_bind (dk_u1 (h 0 _ rfl))).trans ((dk_bind (dk_map (dk_u2 (h 1 _ rfl) (h 2 _ rfl)))).trans rfl))
theorem dk_163 {code : ByteArray} {pc : Nat} (a b : UInt8) (h : DkAt code pc [163, a, b]) : decode code pc = .ok (.if_icmp .gt (Reader.signed 16 (a.toNat * 256 + b.toNat)), 3) := dk_of ((dk_bind (dk_u1 (h 0 _ rfl))).trans ((dk_bind (dk_map (dk_u2 (h 1 _ rfl) (h 2 _ rfl)))).trans rfl))
theorem dk_164 {code : ByteArray} {pc : Nat} (a b : UInt8) (h : DkAt code pc [164, a, b]) : decode code pc = .ok (.if_icmp .le (Reader.signed 16 (a.toNat * 256 + b.toNat)), 3) := dk_of ((dk_bind (dk_u1 (h 0 _ rfl))).trans ((dk_bind (dk_map (dk_u2 (h 1 _ rfl) (h 2 _ rfl)))).trans rfl))
theorem dk_167 {code : ByteArray} {pc : Nat} (a b : UInt8) (h : DkAt code pc [167, a, b]) : decode code pc = .ok (.goto (Reader.signed 16 (a.toNat * 256 + b.toNat)), 3) := dk_of ((dk_bind (dk_u1 (h 0 _ rfl))).trans ((dk_bind (dk_map (dk_u2 (h 1 _ rfl) (h 2 _ rfl)))).trans rfl))
theorem dk_172 {code : ByteArray} {pc : Nat} (h : DkAt code pc [172]) : decode code pc = .ok (.ireturn, 1) := dk_of ((dk_bind (dk_u1 (h 0 _ rfl))).trans rfl)
theorem dk_173 {code : ByteArray} {pc : Nat} (h : DkAt code pc [173]) : decode code pc = .ok (.lreturn, 1) := dk_of ((dk_bind (dk_u1 (h 0 _ rfl))).trans rfl)
theorem dk_176 {code : ByteArray} {pc : Nat} (h : DkAt code pc [176]) : decode code pc = .ok (.areturn, 1) := dk_of ((dk_bind (dk_u1 (h 0 _ rfl))).trans rfl)
theorem dk_177 {code : ByteArray} {pc : Nat} (h : DkAt code pc [177]) : decode code pc = .ok (.return_, 1) := dk_of ((dk_bind (dk_u1 (h 0 _ rfl))).trans rfl)
theorem dk_178 {code : ByteArray} {pc : Nat} (a b : UInt8) (h : DkAt code pc [178, a, b]) : decode code pc = .ok (.getstatic (a.toNat * 256 + b.toNat), 3) := dk_of ((dk_bind (dk_u1 (h 0 _ rfl))).trans ((dk_bind (dk_u2 (h 1 _ rfl) (h 2 _ rfl))).trans rfl))
theorem dk_180 {code : ByteArray} {pc : Nat} (a b : UInt8) (h : DkAt code pc [180, a, b]) : decode code pc = .ok (.getfield (a.toNat * 256 + b.toNat), 3) := dk_of ((dk_bind (dk_u1 (h 0 _ rfl))).trans ((dk_bind (dk_u2 (h 1 _ rfl) (h 2 _ rfl))).trans rfl))
theorem dk_181 {code : ByteArray} {pc : Nat} (a b : UInt8) (h : DkAt code pc [181, a, b]) : decode code pc = .ok (.putfield (a.toNat * 256 + b.toNat), 3) := dk_of ((dk_bind (dk_u1 (h 0 _ rfl))).trans ((dk_bind (dk_u2 (h 1 _ rfl) (h 2 _ rfl))).trans rfl))
theorem dk_182 {code : ByteArray} {pc : Nat} (a b : UInt8) (h : DkAt code pc [182, a, b]) : decode code pc = .ok (.invokevirtual (a.toNat * 256 + b.toNat), 3) := dk_of ((dk_bind (dk_u1 (h 0 _ rfl))).trans ((dk_bind (dk_u2 (h 1 _ rfl) (h 2 _ rfl))).trans rfl))
theorem dk_183 {code : ByteArray} {pc : Nat} (a b : UInt8) (h : DkAt code pc [183, a, b]) : decode code pc = .ok (.invokespecial (a.toNat * 256 + b.toNat), 3) := dk_of ((dk_bind (dk_u1 (h 0 _ rfl))).trans ((dk_bind (dk_u2 (h 1 _ rfl) (h 2 _ rfl))).trans rfl))
theorem dk_184 {code : ByteArray} {pc : Nat} (a b : UInt8) (h : DkAt code pc [184, a, b]) : decode code pc = .ok (.invokestatic (a.toNat * 256 + b.toNat), 3) := dk_of ((dk_bind (dk_u1 (h 0 _ rfl))).trans ((dk_bind (dk_u2 (h 1 _ rfl) (h 2 _ rfl))).trans rfl))
theorem dk_187 {code : ByteArray} {pc : Nat} (a b : UInt8) (h : DkAt code pc [187, a, b]) : decode code pc = .ok (.new (a.toNat * 256 + b.toNat), 3) := dk_of ((dk_bind (dk_u1 (h 0 _ rfl))).trans ((dk_bind (dk_u2 (h 1 _ rfl) (h 2 _ rfl))).trans rfl))
theorem dk_188_8 {code : ByteArray} {pc : Nat} (h : DkAt code pc [188, 8]) : decode code pc = .ok (.newarray .byte, 2) := dk_of ((dk_bind (dk_u1 (h 0 _ rfl))).trans ((dk_bind (dk_u1 (h 1 _ rfl))).trans rfl))
theorem dk_188_10 {code : ByteArray} {pc : Nat} (h : DkAt code pc [188, 10]) : decode code pc = .ok (.newarray .int, 2) := dk_of ((dk_bind (dk_u1 (h 0 _ rfl))).trans ((dk_bind (dk_u1 (h 1 _ rfl))).trans rfl))
theorem dk_190 {code : ByteArray} {pc : Nat} (h : DkAt code pc [190]) : decode code pc = .ok (.arraylength, 1) := dk_of ((dk_bind (dk_u1 (h 0 _ rfl))).trans rfl)
theorem dk_191 {code : ByteArray} {pc : Nat} (h : DkAt code pc [191]) : decode code pc = .ok (.athrow, 1) := dk_of ((dk_bind (dk_u1 (h 0 _ rfl))).trans rfl)
theorem dk_192 {code : ByteArray} {pc : Nat} (a b : UInt8) (h : DkAt code pc [192, a, b]) : decode code pc = .ok (.checkcast (a.toNat * 256 + b.toNat), 3) := dk_of ((dk_bind (dk_u1 (h 0 _ rfl))).trans ((dk_bind (dk_u2 (h 1 _ rfl) (h 2 _ rfl))).trans rfl))
theorem dk_199 {code : ByteArray} {pc : Nat} (a b : UInt8) (h : DkAt code pc [199, a, b]) : decode code pc = .ok (.ifnonnull (Reader.signed 16 (a.toNat * 256 + b.toNat)), 3) := dk_of ((dk_bind (dk_u1 (h 0 _ rfl))).trans ((dk_bind (dk_map (dk_u2 (h 1 _ rfl) (h 2 _ rfl)))).trans rfl))
theorem q56 : (Jvm.Cond.arrayClass Jvm.ClassFile.FieldType.byte) ∈ lw_all := lw_g (lw_at lw_m1 43 rfl) rfl
set_option maxRecDepth 100000
theorem q222 : (Jvm.Cond.arrayClass Jvm.ClassFile.FieldType.int) ∈ lw_all := lw_g (lw_at lw_m1 209 rfl) rfl
theorem q17 : (Jvm.Cond.initialized "java/lang/System") ∈ lw_all := lw_g (lw_at lw_m1 4 rfl) rfl
set_option maxRecDepth 100000
theorem q74 : (Jvm.Cond.static ({ cls := "java/lang/System", name := "arraycopy", desc := "(Ljava/lang/Object;ILjava/lang/Object;II)V" } : Jvm.MethodName)) ∈ lw_all := lw_g (lw_at lw_m1 61 rfl) rfl
theorem q75 : (Jvm.Cond.native ({ cls := "java/lang/System", name := "arraycopy", desc := "(Ljava/lang/Object;ILjava/lang/Object;II)V" } : Jvm.MethodName)) ∈ lw_all := lw_g (lw_at lw_m1 62 rfl) rfl
theorem q78 : (Jvm.Cond.interfaceMethod "BlockCipher" "BlockCipher" "init" "(ZLCipherParameters;)V") ∈ lw_tbl := lw_at lw_m1 65 rfl
set_option maxRecDepth 100000
theorem q79 : (Jvm.Cond.declares ({ cls := "BlockCipher", name := "init", desc := "(ZLCipherParameters;)V" } : Jvm.MethodName)) ∈ lw_tbl := lw_at lw_m1 66 rfl
theorem q199 : (Jvm.Cond.interfaceMethod "BlockCipher" "BlockCipher" "processBlock" "([BI[BI)I") ∈ lw_tbl := lw_at lw_m1 186 rfl
theorem q200 : (Jvm.Cond.declares ({ cls := "BlockCipher", name := "processBlock", desc := "([BI[BI)I" } : Jvm.MethodName)) ∈ lw_tbl := lw_at lw_m1 187 rfl
/-! java/lang/Object -/
set_option maxRecDepth 100000
def RJ5 : String := "java/lang/Object"
abbrev cJ5_init : ByteArray := object_method_1_code
def yJ5_init : MethodName := ⟨RJ5, "<init>", "()V"⟩
theorem dJ5_init_0 : decode cJ5_init 0 = .ok (.return_, 1) := by decide +kernel
theorem q44 : (Jvm.Cond.instanceMethod ({ cls := "java/lang/Object", name := "<init>", desc := "()V" } : Jvm.MethodName)) ∈ lw_all := lw_g (lw_at lw_m1 31 rfl) rfl
theorem q45 : (Jvm.Cond.code ({ cls := "java/lang/Object", name := "<init>", desc := "()V" } : Jvm.MethodName) object_method_1_code (1 : Nat) (Option.none : Option Jvm.ClassFile.FieldType)) ∈ lw_all := lw_g (lw_at lw_m1 32 rfl) rfl
/-! KeyParameter -/
set_option maxRecDepth 100000
def RX3 : String := "KeyParameter"
def TX3 : u_T := fun k => match k with
  | _ => ("KeyParameter", "key", "[B", false)
def tyX3 : Nat → FieldType := fun k => match k with
  | _ => .array .byte
abbrev wsX30 : List Cond := u_ws RX3 TX3 1
theorem nmX3 : ∀ a, a < 1 → ∀ b, b < 1 → a ≠ b → (TX3 a).2.1 ≠ (TX3 b).2.1 := by decide +kernel
theorem tyX3_ok : ∀ k, k < 1 → parseFieldDescriptor (TX3 k).2.2.1 = some (tyX3 k) := by decide +kernel
abbrev cX3_init : ByteArray := prog_4_method_1_code
def yX3_init : MethodName := ⟨RX3, "<init>", "([B)V"⟩
def dkwX3_init_0 : List UInt8 := [42, 43, 3, 43, 190, 183, 0, 1, 177]
abbrev dktX3_init_0 : List UInt8 := dkwX3_init_0 ++ []
theorem dksX3_init_0 : cX3_init.data.toList.drop 0 = dktX3_init_0 := by decide +kernel
theorem dX3_init_0 : decode cX3_init 0 = .ok (.aload_n 0, 1) := dk_42 (dk_at dksX3_init_0 0 rfl rfl)
theorem dX3_init_1 : decode cX3_init 1 = .ok (.aload_n 1, 1) := dk_43 (dk_at dksX3_init_0 1 rfl rfl)
theorem dX3_init_2 : decode cX3_init 2 = .ok (.iconst 0, 1) := dk_3 (dk_at dksX3_init_0 2 rfl rfl)
theorem dX3_init_3 : decode cX3_init 3 = .ok (.aload_n 1, 1) := dk_43 (dk_at dksX3_init_0 3 rfl rfl)
theorem dX3_init_4 : decode cX3_init 4 = .ok (.arraylength, 1) := dk_190 (dk_at dksX3_init_0 4 rfl rfl)
theorem dX3_init_5 : decode cX3_init 5 = .ok (.invokespecial 1, 3) := dk_183 0 1 (dk_at dksX3_init_0 5 rfl rfl)
theorem dX3_init_8 : decode cX3_init 8 = .ok (.return_, 1) := dk_177 (dk_at dksX3_init_0 8 rfl rfl)
abbrev cX3_init_2 : ByteArray := prog_4_method_2_code
def yX3_init_2 : MethodName := ⟨RX3, "<init>", "([BII)V"⟩
def dkwX3_init_2_0 : List UInt8 := [42, 29, 183, 0, 7, 43, 28, 42, 180, 0, 10, 3, 29, 184, 0, 14, 177]
abbrev dktX3_init_2_0 : List UInt8 := dkwX3_init_2_0 ++ []
theorem dksX3_init_2_0 : cX3_init_2.data.toList.drop 0 = dktX3_init_2_0 := by decide +kernel
theorem dX3_init_2_0 : decode cX3_init_2 0 = .ok (.aload_n 0, 1) := dk_42 (dk_at dksX3_init_2_0 0 rfl rfl)
theorem dX3_init_2_1 : decode cX3_init_2 1 = .ok (.iload_n 3, 1) := dk_29 (dk_at dksX3_init_2_0 1 rfl rfl)
theorem dX3_init_2_2 : decode cX3_init_2 2 = .ok (.invokespecial 7, 3) := dk_183 0 7 (dk_at dksX3_init_2_0 2 rfl rfl)
theorem dX3_init_2_5 : decode cX3_init_2 5 = .ok (.aload_n 1, 1) := dk_43 (dk_at dksX3_init_2_0 5 rfl rfl)
theorem dX3_init_2_6 : decode cX3_init_2 6 = .ok (.iload_n 2, 1) := dk_28 (dk_at dksX3_init_2_0 6 rfl rfl)
theorem dX3_init_2_7 : decode cX3_init_2 7 = .ok (.aload_n 0, 1) := dk_42 (dk_at dksX3_init_2_0 7 rfl rfl)
theorem dX3_init_2_8 : decode cX3_init_2 8 = .ok (.getfield 10, 3) := dk_180 0 10 (dk_at dksX3_init_2_0 8 rfl rfl)
theorem dX3_init_2_11 : decode cX3_init_2 11 = .ok (.iconst 0, 1) := dk_3 (dk_at dksX3_init_2_0 11 rfl rfl)
theorem dX3_init_2_12 : decode cX3_init_2 12 = .ok (.iload_n 3, 1) := dk_29 (dk_at dksX3_init_2_0 12 rfl rfl)
theorem dX3_init_2_13 : decode cX3_init_2 13 = .ok (.invokestatic 14, 3) := dk_184 0 14 (dk_at dksX3_init_2_0 13 rfl rfl)
theorem dX3_init_2_16 : decode cX3_init_2 16 = .ok (.return_, 1) := dk_177 (dk_at dksX3_init_2_0 16 rfl rfl)
abbrev cX3_init_3 : ByteArray := prog_4_method_3_code
def yX3_init_3 : MethodName := ⟨RX3, "<init>", "(I)V"⟩
def dkwX3_init_3_0 : List UInt8 := [42, 183, 0, 20, 42, 27, 188, 8, 181, 0, 10, 177]
abbrev dktX3_init_3_0 : List UInt8 := dkwX3_init_3_0 ++ []
theorem dksX3_init_3_0 : cX3_init_3.data.toList.drop 0 = dktX3_init_3_0 := by decide +kernel
theorem dX3_init_3_0 : decode cX3_init_3 0 = .ok (.aload_n 0, 1) := dk_42 (dk_at dksX3_init_3_0 0 rfl rfl)
theorem dX3_init_3_1 : decode cX3_init_3 1 = .ok (.invokespecial 20, 3) := dk_183 0 20 (dk_at dksX3_init_3_0 1 rfl rfl)
theorem dX3_init_3_4 : decode cX3_init_3 4 = .ok (.aload_n 0, 1) := dk_42 (dk_at dksX3_init_3_0 4 rfl rfl)
theorem dX3_init_3_5 : decode cX3_init_3 5 = .ok (.iload_n 1, 1) := dk_27 (dk_at dksX3_init_3_0 5 rfl rfl)
theorem dX3_init_3_6 : decode cX3_init_3 6 = .ok (.newarray .byte, 2) := dk_188_8 (dk_at dksX3_init_3_0 6 rfl rfl)
theorem dX3_init_3_8 : decode cX3_init_3 8 = .ok (.putfield 10, 3) := dk_181 0 10 (dk_at dksX3_init_3_0 8 rfl rfl)
theorem dX3_init_3_11 : decode cX3_init_3 11 = .ok (.return_, 1) := dk_177 (dk_at dksX3_init_3_0 11 rfl rfl)
abbrev cX3_getKey : ByteArray := prog_4_method_4_code
def yX3_getKey : MethodName := ⟨RX3, "getKey", "()[B"⟩
theorem dX3_getKey_0 : decode cX3_getKey 0 = .ok (.aload_n 0, 1) := by decide +kernel
theorem dX3_getKey_1 : decode cX3_getKey 1 = .ok (.getfield 10, 3) := by decide +kernel
theorem dX3_getKey_4 : decode cX3_getKey 4 = .ok (.areturn, 1) := by decide +kernel
theorem q16 : (Jvm.Cond.initialized "KeyParameter") ∈ lw_all := lw_g (lw_at lw_m1 3 rfl) rfl
theorem q58 : (Jvm.Cond.instantiable "KeyParameter" (1 : Nat)) ∈ lw_all := lw_g (lw_at lw_m1 45 rfl) rfl
theorem q60 : (Jvm.Cond.instanceMethod ({ cls := "KeyParameter", name := "<init>", desc := "([B)V" } : Jvm.MethodName)) ∈ lw_all := lw_g (lw_at lw_m1 47 rfl) rfl
theorem q61 : (Jvm.Cond.code ({ cls := "KeyParameter", name := "<init>", desc := "([B)V" } : Jvm.MethodName) prog_4_method_1_code (2 : Nat) (Option.none : Option Jvm.ClassFile.FieldType)) ∈ lw_all := lw_g (lw_at lw_m1 48 rfl) rfl
theorem q62 : (Jvm.Cond.methodLink "KeyParameter" (1 : Nat) ({ cls := "KeyParameter", name := "<init>", desc := "([BII)V" } : Jvm.MethodName)) ∈ lw_all := lw_g (lw_at lw_m1 49 rfl) rfl
theorem q63 : (Jvm.Cond.instanceMethod ({ cls := "KeyParameter", name := "<init>", desc := "([BII)V" } : Jvm.MethodName)) ∈ lw_all := lw_g (lw_at lw_m1 50 rfl) rfl
theorem q64 : (Jvm.Cond.code ({ cls := "KeyParameter", name := "<init>", desc := "([BII)V" } : Jvm.MethodName) prog_4_method_2_code (4 : Nat) (Option.none : Option Jvm.ClassFile.FieldType)) ∈ lw_all := lw_g (lw_at lw_m1 51 rfl) rfl
theorem q65 : (Jvm.Cond.methodLink "KeyParameter" (7 : Nat) ({ cls := "KeyParameter", name := "<init>", desc := "(I)V" } : Jvm.MethodName)) ∈ lw_all := lw_g (lw_at lw_m1 52 rfl) rfl
theorem q66 : (Jvm.Cond.instanceMethod ({ cls := "KeyParameter", name := "<init>", desc := "(I)V" } : Jvm.MethodName)) ∈ lw_all := lw_g (lw_at lw_m1 53 rfl) rfl
theorem q67 : (Jvm.Cond.code ({ cls := "KeyParameter", name := "<init>", desc := "(I)V" } : Jvm.MethodName) prog_4_method_3_code (2 : Nat) (Option.none : Option Jvm.ClassFile.FieldType)) ∈ lw_all := lw_g (lw_at lw_m1 54 rfl) rfl
theorem q68 : (Jvm.Cond.methodLink "KeyParameter" (20 : Nat) ({ cls := "java/lang/Object", name := "<init>", desc := "()V" } : Jvm.MethodName)) ∈ lw_all := lw_g (lw_at lw_m1 55 rfl) rfl
theorem q69 : (Jvm.Cond.fieldLink "KeyParameter" (10 : Nat) "KeyParameter" "key" "[B") ∈ lw_all := lw_g (lw_at lw_m1 56 rfl) rfl
theorem q70 : (Jvm.Cond.lays "KeyParameter" "KeyParameter" "key" "[B") ∈ lw_all := lw_g (lw_at lw_m1 57 rfl) rfl
theorem q71 : (Jvm.Cond.soleField "KeyParameter" "key") ∈ lw_all := lw_g (lw_at lw_m1 58 rfl) rfl
theorem q72 : (Jvm.Cond.superclass "KeyParameter" "java/lang/Object") ∈ lw_all := lw_g (lw_at lw_m1 59 rfl) rfl
theorem q73 : (Jvm.Cond.methodLink "KeyParameter" (14 : Nat) ({ cls := "java/lang/System", name := "arraycopy", desc := "(Ljava/lang/Object;ILjava/lang/Object;II)V" } : Jvm.MethodName)) ∈ lw_all := lw_g (lw_at lw_m1 60 rfl) rfl
theorem q88 : (Jvm.Cond.instanceMethod ({ cls := "KeyParameter", name := "getKey", desc := "()[B" } : Jvm.MethodName)) ∈ lw_all := lw_g (lw_at lw_m1 75 rfl) rfl
theorem q89 : (Jvm.Cond.selects "KeyParameter" ({ cls := "KeyParameter", name := "getKey", desc := "()[B" } : Jvm.MethodName) ({ cls := "KeyParameter", name := "getKey", desc := "()[B" } : Jvm.MethodName)) ∈ lw_all := lw_g (lw_at lw_m1 76 rfl) rfl
theorem q90 : (Jvm.Cond.code ({ cls := "KeyParameter", name := "getKey", desc := "()[B" } : Jvm.MethodName) prog_4_method_4_code (1 : Nat) (Option.some (Jvm.ClassFile.FieldType.array Jvm.ClassFile.FieldType.byte))) ∈ lw_all := lw_g (lw_at lw_m1 77 rfl) rfl
theorem in_X3 : ∀ w ∈ wsX30, w ∈ lw_all := lw_in wsX30 [70] (by decide +kernel) (by decide +kernel)
/-! SEEDEngine -/
set_option maxRecDepth 100000
def RX2 : String := "SEEDEngine"
def TX2 : u_T := fun k => match k with
  | 0 => ("SEEDEngine", "BLOCK_SIZE", "I", true)
  | 1 => ("SEEDEngine", "wKey", "[I", false)
  | _ => ("SEEDEngine", "forEncryption", "Z", false)
def tyX2 : Nat → FieldType := fun k => match k with
  | 0 => .int
  | 1 => .array .int
  | _ => .boolean
abbrev wsX20 : List Cond := u_ws RX2 TX2 3
theorem nmX2 : ∀ a, a < 3 → ∀ b, b < 3 → a ≠ b → (TX2 a).2.1 ≠ (TX2 b).2.1 := by decide +kernel
theorem tyX2_ok : ∀ k, k < 3 → parseFieldDescriptor (TX2 k).2.2.1 = some (tyX2 k) := by decide +kernel
abbrev cX2_init : ByteArray := prog_7_method_1_code
def yX2_init : MethodName := ⟨RX2, "<init>", "()V"⟩
def dkwX2_init_0 : List UInt8 := [42, 183, 0, 1, 42, 16, 16, 181, 0, 7, 177]
abbrev dktX2_init_0 : List UInt8 := dkwX2_init_0 ++ []
theorem dksX2_init_0 : cX2_init.data.toList.drop 0 = dktX2_init_0 := by decide +kernel
theorem dX2_init_0 : decode cX2_init 0 = .ok (.aload_n 0, 1) := dk_42 (dk_at dksX2_init_0 0 rfl rfl)
theorem dX2_init_1 : decode cX2_init 1 = .ok (.invokespecial 1, 3) := dk_183 0 1 (dk_at dksX2_init_0 1 rfl rfl)
theorem dX2_init_4 : decode cX2_init 4 = .ok (.aload_n 0, 1) := dk_42 (dk_at dksX2_init_0 4 rfl rfl)
theorem dX2_init_5 : decode cX2_init 5 = .ok (.bipush 16, 2) := dk_16 16 (dk_at dksX2_init_0 5 rfl rfl)
theorem dX2_init_7 : decode cX2_init 7 = .ok (.putfield 7, 3) := dk_181 0 7 (dk_at dksX2_init_0 7 rfl rfl)
theorem dX2_init_10 : decode cX2_init 10 = .ok (.return_, 1) := dk_177 (dk_at dksX2_init_0 10 rfl rfl)
abbrev cX2_init_2 : ByteArray := prog_7_method_2_code
def yX2_init_2 : MethodName := ⟨RX2, "init", "(ZLCipherParameters;)V"⟩
def dkwX2_init_2_0 : List UInt8 := [42, 27, 181, 0, 13, 42, 42, 44, 192, 0, 17, 182, 0, 19, 182, 0, 23, 181, 0, 27, 177]
abbrev dktX2_init_2_0 : List UInt8 := dkwX2_init_2_0 ++ []
theorem dksX2_init_2_0 : cX2_init_2.data.toList.drop 0 = dktX2_init_2_0 := by decide +kernel
theorem dX2_init_2_0 : decode cX2_init_2 0 = .ok (.aload_n 0, 1) := dk_42 (dk_at dksX2_init_2_0 0 rfl rfl)
theorem dX2_init_2_1 : decode cX2_init_2 1 = .ok (.iload_n 1, 1) := dk_27 (dk_at dksX2_init_2_0 1 rfl rfl)
theorem dX2_init_2_2 : decode cX2_init_2 2 = .ok (.putfield 13, 3) := dk_181 0 13 (dk_at dksX2_init_2_0 2 rfl rfl)
theorem dX2_init_2_5 : decode cX2_init_2 5 = .ok (.aload_n 0, 1) := dk_42 (dk_at dksX2_init_2_0 5 rfl rfl)
theorem dX2_init_2_6 : decode cX2_init_2 6 = .ok (.aload_n 0, 1) := dk_42 (dk_at dksX2_init_2_0 6 rfl rfl)
theorem dX2_init_2_7 : decode cX2_init_2 7 = .ok (.aload_n 2, 1) := dk_44 (dk_at dksX2_init_2_0 7 rfl rfl)
theorem dX2_init_2_8 : decode cX2_init_2 8 = .ok (.checkcast 17, 3) := dk_192 0 17 (dk_at dksX2_init_2_0 8 rfl rfl)
theorem dX2_init_2_11 : decode cX2_init_2 11 = .ok (.invokevirtual 19, 3) := dk_182 0 19 (dk_at dksX2_init_2_0 11 rfl rfl)
theorem dX2_init_2_14 : decode cX2_init_2 14 = .ok (.invokevirtual 23, 3) := dk_182 0 23 (dk_at dksX2_init_2_0 14 rfl rfl)
theorem dX2_init_2_17 : decode cX2_init_2 17 = .ok (.putfield 27, 3) := dk_181 0 27 (dk_at dksX2_init_2_0 17 rfl rfl)
theorem dX2_init_2_20 : decode cX2_init_2 20 = .ok (.return_, 1) := dk_177 (dk_at dksX2_init_2_0 20 rfl rfl)
abbrev cX2_createWorkingKey : ByteArray := prog_7_method_4_code
def yX2_createWorkingKey : MethodName := ⟨RX2, "createWorkingKey", "([B)[I"⟩
def dkwX2_createWorkingKey_7 : List UInt8 := [182, 0, 65, 54, 9, 42, 22, 5, 182, 0, 69, 54, 10, 132, 11, 1, 167, 255, 146, 44, 176]
abbrev dktX2_createWorkingKey_7 : List UInt8 := dkwX2_createWorkingKey_7 ++ []
def dkwX2_createWorkingKey_6 : List UInt8 := [54, 7, 42, 33, 182, 0, 69, 54, 8, 167, 0, 27, 42, 22, 5, 182, 0, 83, 55, 5, 42, 22, 5]
abbrev dktX2_createWorkingKey_6 : List UInt8 := dkwX2_createWorkingKey_6 ++ dktX2_createWorkingKey_7
def dkwX2_createWorkingKey_5 : List UInt8 := [96, 182, 0, 75, 79, 21, 11, 5, 112, 154, 0, 26, 42, 33, 182, 0, 79, 66, 42, 33, 182, 0, 65]
abbrev dktX2_createWorkingKey_5 : List UInt8 := dkwX2_createWorkingKey_5 ++ dktX2_createWorkingKey_6
def dkwX2_createWorkingKey_4 : List UInt8 := [100, 182, 0, 75, 79, 44, 5, 21, 11, 104, 4, 96, 42, 21, 8, 21, 10, 100, 178, 0, 72, 21, 11, 46]
abbrev dktX2_createWorkingKey_4 : List UInt8 := dkwX2_createWorkingKey_4 ++ dktX2_createWorkingKey_5
def dkwX2_createWorkingKey_3 : List UInt8 := [21, 11, 16, 16, 162, 0, 109, 44, 5, 21, 11, 104, 42, 21, 7, 21, 9, 96, 178, 0, 72, 21, 11, 46]
abbrev dktX2_createWorkingKey_3 : List UInt8 := dkwX2_createWorkingKey_3 ++ dktX2_createWorkingKey_4
def dkwX2_createWorkingKey_2 : List UInt8 := [182, 0, 69, 54, 8, 42, 22, 5, 182, 0, 65, 54, 9, 42, 22, 5, 182, 0, 69, 54, 10, 3, 54, 11]
abbrev dktX2_createWorkingKey_2 : List UInt8 := dkwX2_createWorkingKey_2 ++ dktX2_createWorkingKey_3
def dkwX2_createWorkingKey_1 : List UInt8 := [3, 182, 0, 48, 66, 42, 43, 16, 8, 182, 0, 48, 55, 5, 42, 33, 182, 0, 65, 54, 7, 42, 33]
abbrev dktX2_createWorkingKey_1 : List UInt8 := dkwX2_createWorkingKey_1 ++ dktX2_createWorkingKey_2
def dkwX2_createWorkingKey_0 : List UInt8 := [43, 190, 16, 16, 159, 0, 13, 187, 0, 60, 89, 18, 62, 183, 0, 64, 191, 16, 32, 188, 10, 77, 42, 43]
abbrev dktX2_createWorkingKey_0 : List UInt8 := dkwX2_createWorkingKey_0 ++ dktX2_createWorkingKey_1
theorem dksX2_createWorkingKey_0 : cX2_createWorkingKey.data.toList.drop 0 = dktX2_createWorkingKey_0 := by decide +kernel
theorem dksX2_createWorkingKey_1 : cX2_createWorkingKey.data.toList.drop 24 = dktX2_createWorkingKey_1 := dk_seg dksX2_createWorkingKey_0 24 rfl rfl
theorem dksX2_createWorkingKey_2 : cX2_createWorkingKey.data.toList.drop 47 = dktX2_createWorkingKey_2 := dk_seg dksX2_createWorkingKey_1 23 rfl rfl
theorem dksX2_createWorkingKey_3 : cX2_createWorkingKey.data.toList.drop 71 = dktX2_createWorkingKey_3 := dk_seg dksX2_createWorkingKey_2 24 rfl rfl
theorem dksX2_createWorkingKey_4 : cX2_createWorkingKey.data.toList.drop 95 = dktX2_createWorkingKey_4 := dk_seg dksX2_createWorkingKey_3 24 rfl rfl
theorem dksX2_createWorkingKey_5 : cX2_createWorkingKey.data.toList.drop 119 = dktX2_createWorkingKey_5 := dk_seg dksX2_createWorkingKey_4 24 rfl rfl
theorem dksX2_createWorkingKey_6 : cX2_createWorkingKey.data.toList.drop 142 = dktX2_createWorkingKey_6 := dk_seg dksX2_createWorkingKey_5 23 rfl rfl
theorem dksX2_createWorkingKey_7 : cX2_createWorkingKey.data.toList.drop 165 = dktX2_createWorkingKey_7 := dk_seg dksX2_createWorkingKey_6 23 rfl rfl
theorem dX2_createWorkingKey_0 : decode cX2_createWorkingKey 0 = .ok (.aload_n 1, 1) := dk_43 (dk_at dksX2_createWorkingKey_0 0 rfl rfl)
theorem dX2_createWorkingKey_1 : decode cX2_createWorkingKey 1 = .ok (.arraylength, 1) := dk_190 (dk_at dksX2_createWorkingKey_0 1 rfl rfl)
theorem dX2_createWorkingKey_2 : decode cX2_createWorkingKey 2 = .ok (.bipush 16, 2) := dk_16 16 (dk_at dksX2_createWorkingKey_0 2 rfl rfl)
theorem dX2_createWorkingKey_4 : decode cX2_createWorkingKey 4 = .ok (.if_icmp .eq 13, 3) := dk_159 0 13 (dk_at dksX2_createWorkingKey_0 4 rfl rfl)
theorem dX2_createWorkingKey_7 : decode cX2_createWorkingKey 7 = .ok (.new 60, 3) := dk_187 0 60 (dk_at dksX2_createWorkingKey_0 7 rfl rfl)
theorem dX2_createWorkingKey_10 : decode cX2_createWorkingKey 10 = .ok (.dup, 1) := dk_89 (dk_at dksX2_createWorkingKey_0 10 rfl rfl)
theorem dX2_createWorkingKey_11 : decode cX2_createWorkingKey 11 = .ok (.ldc 62, 2) := dk_18 62 (dk_at dksX2_createWorkingKey_0 11 rfl rfl)
theorem dX2_createWorkingKey_13 : decode cX2_createWorkingKey 13 = .ok (.invokespecial 64, 3) := dk_183 0 64 (dk_at dksX2_createWorkingKey_0 13 rfl rfl)
theorem dX2_createWorkingKey_16 : decode cX2_createWorkingKey 16 = .ok (.athrow, 1) := dk_191 (dk_at dksX2_createWorkingKey_0 16 rfl rfl)
theorem dX2_createWorkingKey_17 : decode cX2_createWorkingKey 17 = .ok (.bipush 32, 2) := dk_16 32 (dk_at dksX2_createWorkingKey_0 17 rfl rfl)
theorem dX2_createWorkingKey_19 : decode cX2_createWorkingKey 19 = .ok (.newarray .int, 2) := dk_188_10 (dk_at dksX2_createWorkingKey_0 19 rfl rfl)
theorem dX2_createWorkingKey_21 : decode cX2_createWorkingKey 21 = .ok (.astore_n 2, 1) := dk_77 (dk_at dksX2_createWorkingKey_0 21 rfl rfl)
theorem dX2_createWorkingKey_22 : decode cX2_createWorkingKey 22 = .ok (.aload_n 0, 1) := dk_42 (dk_at dksX2_createWorkingKey_0 22 rfl rfl)
theorem dX2_createWorkingKey_23 : decode cX2_createWorkingKey 23 = .ok (.aload_n 1, 1) := dk_43 (dk_at dksX2_createWorkingKey_0 23 rfl rfl)
theorem dX2_createWorkingKey_24 : decode cX2_createWorkingKey 24 = .ok (.iconst 0, 1) := dk_3 (dk_at dksX2_createWorkingKey_1 0 rfl rfl)
theorem dX2_createWorkingKey_25 : decode cX2_createWorkingKey 25 = .ok (.invokevirtual 48, 3) := dk_182 0 48 (dk_at dksX2_createWorkingKey_1 1 rfl rfl)
theorem dX2_createWorkingKey_28 : decode cX2_createWorkingKey 28 = .ok (.lstore_n 3, 1) := dk_66 (dk_at dksX2_createWorkingKey_1 4 rfl rfl)
theorem dX2_createWorkingKey_29 : decode cX2_createWorkingKey 29 = .ok (.aload_n 0, 1) := dk_42 (dk_at dksX2_createWorkingKey_1 5 rfl rfl)
theorem dX2_createWorkingKey_30 : decode cX2_createWorkingKey 30 = .ok (.aload_n 1, 1) := dk_43 (dk_at dksX2_createWorkingKey_1 6 rfl rfl)
theorem dX2_createWorkingKey_31 : decode cX2_createWorkingKey 31 = .ok (.bipush 8, 2) := dk_16 8 (dk_at dksX2_createWorkingKey_1 7 rfl rfl)
theorem dX2_createWorkingKey_33 : decode cX2_createWorkingKey 33 = .ok (.invokevirtual 48, 3) := dk_182 0 48 (dk_at dksX2_createWorkingKey_1 9 rfl rfl)
theorem dX2_createWorkingKey_36 : decode cX2_createWorkingKey 36 = .ok (.lstore 5, 2) := dk_55 5 (dk_at dksX2_createWorkingKey_1 12 rfl rfl)
theorem dX2_createWorkingKey_38 : decode cX2_createWorkingKey 38 = .ok (.aload_n 0, 1) := dk_42 (dk_at dksX2_createWorkingKey_1 14 rfl rfl)
theorem dX2_createWorkingKey_39 : decode cX2_createWorkingKey 39 = .ok (.lload_n 3, 1) := dk_33 (dk_at dksX2_createWorkingKey_1 15 rfl rfl)
theorem dX2_createWorkingKey_40 : decode cX2_createWorkingKey 40 = .ok (.invokevirtual 65, 3) := dk_182 0 65 (dk_at dksX2_createWorkingKey_1 16 rfl rfl)
theorem dX2_createWorkingKey_43 : decode cX2_createWorkingKey 43 = .ok (.istore 7, 2) := dk_54 7 (dk_at dksX2_createWorkingKey_1 19 rfl rfl)
theorem dX2_createWorkingKey_45 : decode cX2_createWorkingKey 45 = .ok (.aload_n 0, 1) := dk_42 (dk_at dksX2_createWorkingKey_1 21 rfl rfl)
theorem dX2_createWorkingKey_46 : decode cX2_createWorkingKey 46 = .ok (.lload_n 3, 1) := dk_33 (dk_at dksX2_createWorkingKey_1 22 rfl rfl)
theorem dX2_createWorkingKey_47 : decode cX2_createWorkingKey 47 = .ok (.invokevirtual 69, 3) := dk_182 0 69 (dk_at dksX2_createWorkingKey_2 0 rfl rfl)
theorem dX2_createWorkingKey_50 : decode cX2_createWorkingKey 50 = .ok (.istore 8, 2) := dk_54 8 (dk_at dksX2_createWorkingKey_2 3 rfl rfl)
theorem dX2_createWorkingKey_52 : decode cX2_createWorkingKey 52 = .ok (.aload_n 0, 1) := dk_42 (dk_at dksX2_createWorkingKey_2 5 rfl rfl)
theorem dX2_createWorkingKey_53 : decode cX2_createWorkingKey 53 = .ok (.lload 5, 2) := dk_22 5 (dk_at dksX2_createWorkingKey_2 6 rfl rfl)
theorem dX2_createWorkingKey_55 : decode cX2_createWorkingKey 55 = .ok (.invokevirtual 65, 3) := dk_182 0 65 (dk_at dksX2_createWorkingKey_2 8 rfl rfl)
theorem dX2_createWorkingKey_58 : decode cX2_createWorkingKey 58 = .ok (.istore 9, 2) := dk_54 9 (dk_at dksX2_createWorkingKey_2 11 rfl rfl)
theorem dX2_createWorkingKey_60 : decode cX2_createWorkingKey 60 = .ok (.aload_n 0, 1) := dk_42 (dk_at dksX2_createWorkingKey_2 13 rfl rfl)
theorem dX2_createWorkingKey_61 : decode cX2_createWorkingKey 61 = .ok (.lload 5, 2) := dk_22 5 (dk_at dksX2_createWorkingKey_2 14 rfl rfl)
theorem dX2_createWorkingKey_63 : decode cX2_createWorkingKey 63 = .ok (.invokevirtual 69, 3) := dk_182 0 69 (dk_at dksX2_createWorkingKey_2 16 rfl rfl)
theorem dX2_createWorkingKey_66 : decode cX2_createWorkingKey 66 = .ok (.istore 10, 2) := dk_54 10 (dk_at dksX2_createWorkingKey_2 19 rfl rfl)
theorem dX2_createWorkingKey_68 : decode cX2_createWorkingKey 68 = .ok (.iconst 0, 1) := dk_3 (dk_at dksX2_createWorkingKey_2 21 rfl rfl)
theorem dX2_createWorkingKey_69 : decode cX2_createWorkingKey 69 = .ok (.istore 11, 2) := dk_54 11 (dk_at dksX2_createWorkingKey_2 22 rfl rfl)
theorem dX2_createWorkingKey_71 : decode cX2_createWorkingKey 71 = .ok (.iload 11, 2) := dk_21 11 (dk_at dksX2_createWorkingKey_3 0 rfl rfl)
theorem dX2_createWorkingKey_73 : decode cX2_createWorkingKey 73 = .ok (.bipush 16, 2) := dk_16 16 (dk_at dksX2_createWorkingKey_3 2 rfl rfl)
theorem dX2_createWorkingKey_75 : decode cX2_createWorkingKey 75 = .ok (.if_icmp .ge 109, 3) := dk_162 0 109 (dk_at dksX2_createWorkingKey_3 4 rfl rfl)
theorem dX2_createWorkingKey_78 : decode cX2_createWorkingKey 78 = .ok (.aload_n 2, 1) := dk_44 (dk_at dksX2_createWorkingKey_3 7 rfl rfl)
theorem dX2_createWorkingKey_79 : decode cX2_createWorkingKey 79 = .ok (.iconst 2, 1) := dk_5 (dk_at dksX2_createWorkingKey_3 8 rfl rfl)
theorem dX2_createWorkingKey_80 : decode cX2_createWorkingKey 80 = .ok (.iload 11, 2) := dk_21 11 (dk_at dksX2_createWorkingKey_3 9 rfl rfl)
theorem dX2_createWorkingKey_82 : decode cX2_createWorkingKey 82 = .ok (.imul, 1) := dk_104 (dk_at dksX2_createWorkingKey_3 11 rfl rfl)
theorem dX2_createWorkingKey_83 : decode cX2_createWorkingKey 83 = .ok (.aload_n 0, 1) := dk_42 (dk_at dksX2_createWorkingKey_3 12 rfl rfl)
theorem dX2_createWorkingKey_84 : decode cX2_createWorkingKey 84 = .ok (.iload 7, 2) := dk_21 7 (dk_at dksX2_createWorkingKey_3 13 rfl rfl)
theorem dX2_createWorkingKey_86 : decode cX2_createWorkingKey 86 = .ok (.iload 9, 2) := dk_21 9 (dk_at dksX2_createWorkingKey_3 15 rfl rfl)
theorem dX2_createWorkingKey_88 : decode cX2_createWorkingKey 88 = .ok (.iadd, 1) := dk_96 (dk_at dksX2_createWorkingKey_3 17 rfl rfl)
theorem dX2_createWorkingKey_89 : decode cX2_createWorkingKey 89 = .ok (.getstatic 72, 3) := dk_178 0 72 (dk_at dksX2_createWorkingKey_3 18 rfl rfl)
theorem dX2_createWorkingKey_92 : decode cX2_createWorkingKey 92 = .ok (.iload 11, 2) := dk_21 11 (dk_at dksX2_createWorkingKey_3 21 rfl rfl)
theorem dX2_createWorkingKey_94 : decode cX2_createWorkingKey 94 = .ok (.iaload, 1) := dk_46 (dk_at dksX2_createWorkingKey_3 23 rfl rfl)
theorem dX2_createWorkingKey_95 : decode cX2_createWorkingKey 95 = .ok (.isub, 1) := dk_100 (dk_at dksX2_createWorkingKey_4 0 rfl rfl)
theorem dX2_createWorkingKey_96 : decode cX2_createWorkingKey 96 = .ok (.invokevirtual 75, 3) := dk_182 0 75 (dk_at dksX2_createWorkingKey_4 1 rfl rfl)
theorem dX2_createWorkingKey_99 : decode cX2_createWorkingKey 99 = .ok (.iastore, 1) := dk_79 (dk_at dksX2_createWorkingKey_4 4 rfl rfl)
theorem dX2_createWorkingKey_100 : decode cX2_createWorkingKey 100 = .ok (.aload_n 2, 1) := dk_44 (dk_at dksX2_createWorkingKey_4 5 rfl rfl)
theorem dX2_createWorkingKey_101 : decode cX2_createWorkingKey 101 = .ok (.iconst 2, 1) := dk_5 (dk_at dksX2_createWorkingKey_4 6 rfl rfl)
theorem dX2_createWorkingKey_102 : decode cX2_createWorkingKey 102 = .ok (.iload 11, 2) := dk_21 11 (dk_at dksX2_createWorkingKey_4 7 rfl rfl)
theorem dX2_createWorkingKey_104 : decode cX2_createWorkingKey 104 = .ok (.imul, 1) := dk_104 (dk_at dksX2_createWorkingKey_4 9 rfl rfl)
theorem dX2_createWorkingKey_105 : decode cX2_createWorkingKey 105 = .ok (.iconst 1, 1) := dk_4 (dk_at dksX2_createWorkingKey_4 10 rfl rfl)
theorem dX2_createWorkingKey_106 : decode cX2_createWorkingKey 106 = .ok (.iadd, 1) := dk_96 (dk_at dksX2_createWorkingKey_4 11 rfl rfl)
theorem dX2_createWorkingKey_107 : decode cX2_createWorkingKey 107 = .ok (.aload_n 0, 1) := dk_42 (dk_at dksX2_createWorkingKey_4 12 rfl rfl)
theorem dX2_createWorkingKey_108 : decode cX2_createWorkingKey 108 = .ok (.iload 8, 2) := dk_21 8 (dk_at dksX2_createWorkingKey_4 13 rfl rfl)
theorem dX2_createWorkingKey_110 : decode cX2_createWorkingKey 110 = .ok (.iload 10, 2) := dk_21 10 (dk_at dksX2_createWorkingKey_4 15 rfl rfl)
theorem dX2_createWorkingKey_112 : decode cX2_createWorkingKey 112 = .ok (.isub, 1) := dk_100 (dk_at dksX2_createWorkingKey_4 17 rfl rfl)
theorem dX2_createWorkingKey_113 : decode cX2_createWorkingKey 113 = .ok (.getstatic 72, 3) := dk_178 0 72 (dk_at dksX2_createWorkingKey_4 18 rfl rfl)
theorem dX2_createWorkingKey_116 : decode cX2_createWorkingKey 116 = .ok (.iload 11, 2) := dk_21 11 (dk_at dksX2_createWorkingKey_4 21 rfl rfl)
theorem dX2_createWorkingKey_118 : decode cX2_createWorkingKey 118 = .ok (.iaload, 1) := dk_46 (dk_at dksX2_createWorkingKey_4 23 rfl rfl)
theorem dX2_createWorkingKey_119 : decode cX2_createWorkingKey 119 = .ok (.iadd, 1) := dk_96 (dk_at dksX2_createWorkingKey_5 0 rfl rfl)
theorem dX2_createWorkingKey_120 : decode cX2_createWorkingKey 120 = .ok (.invokevirtual 75, 3) := dk_182 0 75 (dk_at dksX2_createWorkingKey_5 1 rfl rfl)
theorem dX2_createWorkingKey_123 : decode cX2_createWorkingKey 123 = .ok (.iastore, 1) := dk_79 (dk_at dksX2_createWorkingKey_5 4 rfl rfl)
theorem dX2_createWorkingKey_124 : decode cX2_createWorkingKey 124 = .ok (.iload 11, 2) := dk_21 11 (dk_at dksX2_createWorkingKey_5 5 rfl rfl)
theorem dX2_createWorkingKey_126 : decode cX2_createWorkingKey 126 = .ok (.iconst 2, 1) := dk_5 (dk_at dksX2_createWorkingKey_5 7 rfl rfl)
theorem dX2_createWorkingKey_127 : decode cX2_createWorkingKey 127 = .ok (.irem, 1) := dk_112 (dk_at dksX2_createWorkingKey_5 8 rfl rfl)
theorem dX2_createWorkingKey_128 : decode cX2_createWorkingKey 128 = .ok (.ifCond .ne 26, 3) := dk_154 0 26 (dk_at dksX2_createWorkingKey_5 9 rfl rfl)
theorem dX2_createWorkingKey_131 : decode cX2_createWorkingKey 131 = .ok (.aload_n 0, 1) := dk_42 (dk_at dksX2_createWorkingKey_5 12 rfl rfl)
theorem dX2_createWorkingKey_132 : decode cX2_createWorkingKey 132 = .ok (.lload_n 3, 1) := dk_33 (dk_at dksX2_createWorkingKey_5 13 rfl rfl)
theorem dX2_createWorkingKey_133 : decode cX2_createWorkingKey 133 = .ok (.invokevirtual 79, 3) := dk_182 0 79 (dk_at dksX2_createWorkingKey_5 14 rfl rfl)
theorem dX2_createWorkingKey_136 : decode cX2_createWorkingKey 136 = .ok (.lstore_n 3, 1) := dk_66 (dk_at dksX2_createWorkingKey_5 17 rfl rfl)
theorem dX2_createWorkingKey_137 : decode cX2_createWorkingKey 137 = .ok (.aload_n 0, 1) := dk_42 (dk_at dksX2_createWorkingKey_5 18 rfl rfl)
theorem dX2_createWorkingKey_138 : decode cX2_createWorkingKey 138 = .ok (.lload_n 3, 1) := dk_33 (dk_at dksX2_createWorkingKey_5 19 rfl rfl)
theorem dX2_createWorkingKey_139 : decode cX2_createWorkingKey 139 = .ok (.invokevirtual 65, 3) := dk_182 0 65 (dk_at dksX2_createWorkingKey_5 20 rfl rfl)
theorem dX2_createWorkingKey_142 : decode cX2_createWorkingKey 142 = .ok (.istore 7, 2) := dk_54 7 (dk_at dksX2_createWorkingKey_6 0 rfl rfl)
theorem dX2_createWorkingKey_144 : decode cX2_createWorkingKey 144 = .ok (.aload_n 0, 1) := dk_42 (dk_at dksX2_createWorkingKey_6 2 rfl rfl)
theorem dX2_createWorkingKey_145 : decode cX2_createWorkingKey 145 = .ok (.lload_n 3, 1) := dk_33 (dk_at dksX2_createWorkingKey_6 3 rfl rfl)
theorem dX2_createWorkingKey_146 : decode cX2_createWorkingKey 146 = .ok (.invokevirtual 69, 3) := dk_182 0 69 (dk_at dksX2_createWorkingKey_6 4 rfl rfl)
theorem dX2_createWorkingKey_149 : decode cX2_createWorkingKey 149 = .ok (.istore 8, 2) := dk_54 8 (dk_at dksX2_createWorkingKey_6 7 rfl rfl)
theorem dX2_createWorkingKey_151 : decode cX2_createWorkingKey 151 = .ok (.goto 27, 3) := dk_167 0 27 (dk_at dksX2_createWorkingKey_6 9 rfl rfl)
theorem dX2_createWorkingKey_154 : decode cX2_createWorkingKey 154 = .ok (.aload_n 0, 1) := dk_42 (dk_at dksX2_createWorkingKey_6 12 rfl rfl)
theorem dX2_createWorkingKey_155 : decode cX2_createWorkingKey 155 = .ok (.lload 5, 2) := dk_22 5 (dk_at dksX2_createWorkingKey_6 13 rfl rfl)
theorem dX2_createWorkingKey_157 : decode cX2_createWorkingKey 157 = .ok (.invokevirtual 83, 3) := dk_182 0 83 (dk_at dksX2_createWorkingKey_6 15 rfl rfl)
theorem dX2_createWorkingKey_160 : decode cX2_createWorkingKey 160 = .ok (.lstore 5, 2) := dk_55 5 (dk_at dksX2_createWorkingKey_6 18 rfl rfl)
theorem dX2_createWorkingKey_162 : decode cX2_createWorkingKey 162 = .ok (.aload_n 0, 1) := dk_42 (dk_at dksX2_createWorkingKey_6 20 rfl rfl)
theorem dX2_createWorkingKey_163 : decode cX2_createWorkingKey 163 = .ok (.lload 5, 2) := dk_22 5 (dk_at dksX2_createWorkingKey_6 21 rfl rfl)
theorem dX2_createWorkingKey_165 : decode cX2_createWorkingKey 165 = .ok (.invokevirtual 65, 3) := dk_182 0 65 (dk_at dksX2_createWorkingKey_7 0 rfl rfl)
theorem dX2_createWorkingKey_168 : decode cX2_createWorkingKey 168 = .ok (.istore 9, 2) := dk_54 9 (dk_at dksX2_createWorkingKey_7 3 rfl rfl)
theorem dX2_createWorkingKey_170 : decode cX2_createWorkingKey 170 = .ok (.aload_n 0, 1) := dk_42 (dk_at dksX2_createWorkingKey_7 5 rfl rfl)
theorem dX2_createWorkingKey_171 : decode cX2_createWorkingKey 171 = .ok (.lload 5, 2) := dk_22 5 (dk_at dksX2_createWorkingKey_7 6 rfl rfl)
theorem dX2_createWorkingKey_173 : decode cX2_createWorkingKey 173 = .ok (.invokevirtual 69, 3) := dk_182 0 69 (dk_at dksX2_createWorkingKey_7 8 rfl rfl)
theorem dX2_createWorkingKey_176 : decode cX2_createWorkingKey 176 = .ok (.istore 10, 2) := dk_54 10 (dk_at dksX2_createWorkingKey_7 11 rfl rfl)
theorem dX2_createWorkingKey_178 : decode cX2_createWorkingKey 178 = .ok (.iinc 11 1, 3) := dk_132 11 1 (dk_at dksX2_createWorkingKey_7 13 rfl rfl)
theorem dX2_createWorkingKey_181 : decode cX2_createWorkingKey 181 = .ok (.goto (-110), 3) := dk_167 255 146 (dk_at dksX2_createWorkingKey_7 16 rfl rfl)
theorem dX2_createWorkingKey_184 : decode cX2_createWorkingKey 184 = .ok (.aload_n 2, 1) := dk_44 (dk_at dksX2_createWorkingKey_7 19 rfl rfl)
theorem dX2_createWorkingKey_185 : decode cX2_createWorkingKey 185 = .ok (.areturn, 1) := dk_176 (dk_at dksX2_createWorkingKey_7 20 rfl rfl)
abbrev cX2_bytesToLong : ByteArray := prog_7_method_9_code
def yX2_bytesToLong : MethodName := ⟨RX2, "bytesToLong", "([BI)J"⟩
def dkwX2_bytesToLong_1 : List UInt8 := [17, 0, 255, 126, 133, 97, 66, 132, 5, 1, 167, 255, 229, 33, 173]
abbrev dktX2_bytesToLong_1 : List UInt8 := dkwX2_bytesToLong_1 ++ []
def dkwX2_bytesToLong_0 : List UInt8 := [9, 66, 3, 54, 5, 21, 5, 16, 7, 163, 0, 26, 33, 16, 8, 121, 43, 21, 5, 28, 96, 51]
abbrev dktX2_bytesToLong_0 : List UInt8 := dkwX2_bytesToLong_0 ++ dktX2_bytesToLong_1
theorem dksX2_bytesToLong_0 : cX2_bytesToLong.data.toList.drop 0 = dktX2_bytesToLong_0 := by decide +kernel
theorem dksX2_bytesToLong_1 : cX2_bytesToLong.data.toList.drop 22 = dktX2_bytesToLong_1 := dk_seg dksX2_bytesToLong_0 22 rfl rfl
theorem dX2_bytesToLong_0 : decode cX2_bytesToLong 0 = .ok (.lconst 0, 1) := dk_9 (dk_at dksX2_bytesToLong_0 0 rfl rfl)
theorem dX2_bytesToLong_1 : decode cX2_bytesToLong 1 = .ok (.lstore_n 3, 1) := dk_66 (dk_at dksX2_bytesToLong_0 1 rfl rfl)
theorem dX2_bytesToLong_2 : decode cX2_bytesToLong 2 = .ok (.iconst 0, 1) := dk_3 (dk_at dksX2_bytesToLong_0 2 rfl rfl)
theorem dX2_bytesToLong_3 : decode cX2_bytesToLong 3 = .ok (.istore 5, 2) := dk_54 5 (dk_at dksX2_bytesToLong_0 3 rfl rfl)
theorem dX2_bytesToLong_5 : decode cX2_bytesToLong 5 = .ok (.iload 5, 2) := dk_21 5 (dk_at dksX2_bytesToLong_0 5 rfl rfl)
theorem dX2_bytesToLong_7 : decode cX2_bytesToLong 7 = .ok (.bipush 7, 2) := dk_16 7 (dk_at dksX2_bytesToLong_0 7 rfl rfl)
theorem dX2_bytesToLong_9 : decode cX2_bytesToLong 9 = .ok (.if_icmp .gt 26, 3) := dk_163 0 26 (dk_at dksX2_bytesToLong_0 9 rfl rfl)
theorem dX2_bytesToLong_12 : decode cX2_bytesToLong 12 = .ok (.lload_n 3, 1) := dk_33 (dk_at dksX2_bytesToLong_0 12 rfl rfl)
theorem dX2_bytesToLong_13 : decode cX2_bytesToLong 13 = .ok (.bipush 8, 2) := dk_16 8 (dk_at dksX2_bytesToLong_0 13 rfl rfl)
theorem dX2_bytesToLong_15 : decode cX2_bytesToLong 15 = .ok (.lshl, 1) := dk_121 (dk_at dksX2_bytesToLong_0 15 rfl rfl)
theorem dX2_bytesToLong_16 : decode cX2_bytesToLong 16 = .ok (.aload_n 1, 1) := dk_43 (dk_at dksX2_bytesToLong_0 16 rfl rfl)
theorem dX2_bytesToLong_17 : decode cX2_bytesToLong 17 = .ok (.iload 5, 2) := dk_21 5 (dk_at dksX2_bytesToLong_0 17 rfl rfl)
theorem dX2_bytesToLong_19 : decode cX2_bytesToLong 19 = .ok (.iload_n 2, 1) := dk_28 (dk_at dksX2_bytesToLong_0 19 rfl rfl)
theorem dX2_bytesToLong_20 : decode cX2_bytesToLong 20 = .ok (.iadd, 1) := dk_96 (dk_at dksX2_bytesToLong_0 20 rfl rfl)
theorem dX2_bytesToLong_21 : decode cX2_bytesToLong 21 = .ok (.baload, 1) := dk_51 (dk_at dksX2_bytesToLong_0 21 rfl rfl)
theorem dX2_bytesToLong_22 : decode cX2_bytesToLong 22 = .ok (.sipush 255, 3) := dk_17 0 255 (dk_at dksX2_bytesToLong_1 0 rfl rfl)
theorem dX2_bytesToLong_25 : decode cX2_bytesToLong 25 = .ok (.iand, 1) := dk_126 (dk_at dksX2_bytesToLong_1 3 rfl rfl)
theorem dX2_bytesToLong_26 : decode cX2_bytesToLong 26 = .ok (.i2l, 1) := dk_133 (dk_at dksX2_bytesToLong_1 4 rfl rfl)
theorem dX2_bytesToLong_27 : decode cX2_bytesToLong 27 = .ok (.ladd, 1) := dk_97 (dk_at dksX2_bytesToLong_1 5 rfl rfl)
theorem dX2_bytesToLong_28 : decode cX2_bytesToLong 28 = .ok (.lstore_n 3, 1) := dk_66 (dk_at dksX2_bytesToLong_1 6 rfl rfl)
theorem dX2_bytesToLong_29 : decode cX2_bytesToLong 29 = .ok (.iinc 5 1, 3) := dk_132 5 1 (dk_at dksX2_bytesToLong_1 7 rfl rfl)
theorem dX2_bytesToLong_32 : decode cX2_bytesToLong 32 = .ok (.goto (-27), 3) := dk_167 255 229 (dk_at dksX2_bytesToLong_1 10 rfl rfl)
theorem dX2_bytesToLong_35 : decode cX2_bytesToLong 35 = .ok (.lload_n 3, 1) := dk_33 (dk_at dksX2_bytesToLong_1 13 rfl rfl)
theorem dX2_bytesToLong_36 : decode cX2_bytesToLong 36 = .ok (.lreturn, 1) := dk_173 (dk_at dksX2_bytesToLong_1 14 rfl rfl)
abbrev cX2_extractW0 : ByteArray := prog_7_method_6_code
def yX2_extractW0 : MethodName := ⟨RX2, "extractW0", "(J)I"⟩
def dkwX2_extractW0_0 : List UInt8 := [31, 16, 32, 123, 136, 172]
abbrev dktX2_extractW0_0 : List UInt8 := dkwX2_extractW0_0 ++ []
theorem dksX2_extractW0_0 : cX2_extractW0.data.toList.drop 0 = dktX2_extractW0_0 := by decide +kernel
theorem dX2_extractW0_0 : decode cX2_extractW0 0 = .ok (.lload_n 1, 1) := dk_31 (dk_at dksX2_extractW0_0 0 rfl rfl)
theorem dX2_extractW0_1 : decode cX2_extractW0 1 = .ok (.bipush 32, 2) := dk_16 32 (dk_at dksX2_extractW0_0 1 rfl rfl)
theorem dX2_extractW0_3 : decode cX2_extractW0 3 = .ok (.lshr, 1) := dk_123 (dk_at dksX2_extractW0_0 3 rfl rfl)
theorem dX2_extractW0_4 : decode cX2_extractW0 4 = .ok (.l2i, 1) := dk_136 (dk_at dksX2_extractW0_0 4 rfl rfl)
theorem dX2_extractW0_5 : decode cX2_extractW0 5 = .ok (.ireturn, 1) := dk_172 (dk_at dksX2_extractW0_0 5 rfl rfl)
abbrev cX2_extractW1 : ByteArray := prog_7_method_5_code
def yX2_extractW1 : MethodName := ⟨RX2, "extractW1", "(J)I"⟩
theorem dX2_extractW1_0 : decode cX2_extractW1 0 = .ok (.lload_n 1, 1) := by decide +kernel
theorem dX2_extractW1_1 : decode cX2_extractW1 1 = .ok (.l2i, 1) := by decide +kernel
theorem dX2_extractW1_2 : decode cX2_extractW1 2 = .ok (.ireturn, 1) := by decide +kernel
abbrev cX2_G : ByteArray := prog_7_method_11_code
def yX2_G : MethodName := ⟨RX2, "G", "(I)I"⟩
def dkwX2_G_2 : List UInt8 := [46, 130, 172]
abbrev dktX2_G_2 : List UInt8 := dkwX2_G_2 ++ []
def dkwX2_G_1 : List UInt8 := [178, 0, 92, 27, 16, 16, 122, 17, 0, 255, 126, 46, 130, 178, 0, 95, 27, 16, 24, 122, 17, 0, 255, 126]
abbrev dktX2_G_1 : List UInt8 := dkwX2_G_1 ++ dktX2_G_2
def dkwX2_G_0 : List UInt8 := [178, 0, 86, 27, 17, 0, 255, 126, 46, 178, 0, 89, 27, 16, 8, 122, 17, 0, 255, 126, 46, 130]
abbrev dktX2_G_0 : List UInt8 := dkwX2_G_0 ++ dktX2_G_1
theorem dksX2_G_0 : cX2_G.data.toList.drop 0 = dktX2_G_0 := by decide +kernel
theorem dksX2_G_1 : cX2_G.data.toList.drop 22 = dktX2_G_1 := dk_seg dksX2_G_0 22 rfl rfl
theorem dksX2_G_2 : cX2_G.data.toList.drop 46 = dktX2_G_2 := dk_seg dksX2_G_1 24 rfl rfl
theorem dX2_G_0 : decode cX2_G 0 = .ok (.getstatic 86, 3) := dk_178 0 86 (dk_at dksX2_G_0 0 rfl rfl)
theorem dX2_G_3 : decode cX2_G 3 = .ok (.iload_n 1, 1) := dk_27 (dk_at dksX2_G_0 3 rfl rfl)
theorem dX2_G_4 : decode cX2_G 4 = .ok (.sipush 255, 3) := dk_17 0 255 (dk_at dksX2_G_0 4 rfl rfl)
theorem dX2_G_7 : decode cX2_G 7 = .ok (.iand, 1) := dk_126 (dk_at dksX2_G_0 7 rfl rfl)
theorem dX2_G_8 : decode cX2_G 8 = .ok (.iaload, 1) := dk_46 (dk_at dksX2_G_0 8 rfl rfl)
theorem dX2_G_9 : decode cX2_G 9 = .ok (.getstatic 89, 3) := dk_178 0 89 (dk_at dksX2_G_0 9 rfl rfl)
theorem dX2_G_12 : decode cX2_G 12 = .ok (.iload_n 1, 1) := dk_27 (dk_at dksX2_G_0 12 rfl rfl)
theorem dX2_G_13 : decode cX2_G 13 = .ok (.bipush 8, 2) := dk_16 8 (dk_at dksX2_G_0 13 rfl rfl)
theorem dX2_G_15 : decode cX2_G 15 = .ok (.ishr, 1) := dk_122 (dk_at dksX2_G_0 15 rfl rfl)
theorem dX2_G_16 : decode cX2_G 16 = .ok (.sipush 255, 3) := dk_17 0 255 (dk_at dksX2_G_0 16 rfl rfl)
theorem dX2_G_19 : decode cX2_G 19 = .ok (.iand, 1) := dk_126 (dk_at dksX2_G_0 19 rfl rfl)
theorem dX2_G_20 : decode cX2_G 20 = .ok (.iaload, 1) := dk_46 (dk_at dksX2_G_0 20 rfl rfl)
theorem dX2_G_21 : decode cX2_G 21 = .ok (.ixor, 1) := dk_130 (dk_at dksX2_G_0 21 rfl rfl)
theorem dX2_G_22 : decode cX2_G 22 = .ok (.getstatic 92, 3) := dk_178 0 92 (dk_at dksX2_G_1 0 rfl rfl)
theorem dX2_G_25 : decode cX2_G 25 = .ok (.iload_n 1, 1) := dk_27 (dk_at dksX2_G_1 3 rfl rfl)
theorem dX2_G_26 : decode cX2_G 26 = .ok (.bipush 16, 2) := dk_16 16 (dk_at dksX2_G_1 4 rfl rfl)
theorem dX2_G_28 : decode cX2_G 28 = .ok (.ishr, 1) := dk_122 (dk_at dksX2_G_1 6 rfl rfl)
theorem dX2_G_29 : decode cX2_G 29 = .ok (.sipush 255, 3) := dk_17 0 255 (dk_at dksX2_G_1 7 rfl rfl)
theorem dX2_G_32 : decode cX2_G 32 = .ok (.iand, 1) := dk_126 (dk_at dksX2_G_1 10 rfl rfl)
theorem dX2_G_33 : decode cX2_G 33 = .ok (.iaload, 1) := dk_46 (dk_at dksX2_G_1 11 rfl rfl)
theorem dX2_G_34 : decode cX2_G 34 = .ok (.ixor, 1) := dk_130 (dk_at dksX2_G_1 12 rfl rfl)
theorem dX2_G_35 : decode cX2_G 35 = .ok (.getstatic 95, 3) := dk_178 0 95 (dk_at dksX2_G_1 13 rfl rfl)
theorem dX2_G_38 : decode cX2_G 38 = .ok (.iload_n 1, 1) := dk_27 (dk_at dksX2_G_1 16 rfl rfl)
theorem dX2_G_39 : decode cX2_G 39 = .ok (.bipush 24, 2) := dk_16 24 (dk_at dksX2_G_1 17 rfl rfl)
theorem dX2_G_41 : decode cX2_G 41 = .ok (.ishr, 1) := dk_122 (dk_at dksX2_G_1 19 rfl rfl)
theorem dX2_G_42 : decode cX2_G 42 = .ok (.sipush 255, 3) := dk_17 0 255 (dk_at dksX2_G_1 20 rfl rfl)
theorem dX2_G_45 : decode cX2_G 45 = .ok (.iand, 1) := dk_126 (dk_at dksX2_G_1 23 rfl rfl)
theorem dX2_G_46 : decode cX2_G 46 = .ok (.iaload, 1) := dk_46 (dk_at dksX2_G_2 0 rfl rfl)
theorem dX2_G_47 : decode cX2_G 47 = .ok (.ixor, 1) := dk_130 (dk_at dksX2_G_2 1 rfl rfl)
theorem dX2_G_48 : decode cX2_G 48 = .ok (.ireturn, 1) := dk_172 (dk_at dksX2_G_2 2 rfl rfl)
abbrev cX2_rotateRight8 : ByteArray := prog_7_method_8_code
def yX2_rotateRight8 : MethodName := ⟨RX2, "rotateRight8", "(J)J"⟩
def dkwX2_rotateRight8_0 : List UInt8 := [31, 16, 8, 125, 31, 16, 56, 121, 129, 173]
abbrev dktX2_rotateRight8_0 : List UInt8 := dkwX2_rotateRight8_0 ++ []
theorem dksX2_rotateRight8_0 : cX2_rotateRight8.data.toList.drop 0 = dktX2_rotateRight8_0 := by decide +kernel
theorem dX2_rotateRight8_0 : decode cX2_rotateRight8 0 = .ok (.lload_n 1, 1) := dk_31 (dk_at dksX2_rotateRight8_0 0 rfl rfl)
theorem dX2_rotateRight8_1 : decode cX2_rotateRight8 1 = .ok (.bipush 8, 2) := dk_16 8 (dk_at dksX2_rotateRight8_0 1 rfl rfl)
theorem dX2_rotateRight8_3 : decode cX2_rotateRight8 3 = .ok (.lushr, 1) := dk_125 (dk_at dksX2_rotateRight8_0 3 rfl rfl)
theorem dX2_rotateRight8_4 : decode cX2_rotateRight8 4 = .ok (.lload_n 1, 1) := dk_31 (dk_at dksX2_rotateRight8_0 4 rfl rfl)
theorem dX2_rotateRight8_5 : decode cX2_rotateRight8 5 = .ok (.bipush 56, 2) := dk_16 56 (dk_at dksX2_rotateRight8_0 5 rfl rfl)
theorem dX2_rotateRight8_7 : decode cX2_rotateRight8 7 = .ok (.lshl, 1) := dk_121 (dk_at dksX2_rotateRight8_0 7 rfl rfl)
theorem dX2_rotateRight8_8 : decode cX2_rotateRight8 8 = .ok (.lor, 1) := dk_129 (dk_at dksX2_rotateRight8_0 8 rfl rfl)
theorem dX2_rotateRight8_9 : decode cX2_rotateRight8 9 = .ok (.lreturn, 1) := dk_173 (dk_at dksX2_rotateRight8_0 9 rfl rfl)
abbrev cX2_rotateLeft8 : ByteArray := prog_7_method_7_code
def yX2_rotateLeft8 : MethodName := ⟨RX2, "rotateLeft8", "(J)J"⟩
def dkwX2_rotateLeft8_0 : List UInt8 := [31, 16, 8, 121, 31, 16, 56, 125, 129, 173]
abbrev dktX2_rotateLeft8_0 : List UInt8 := dkwX2_rotateLeft8_0 ++ []
theorem dksX2_rotateLeft8_0 : cX2_rotateLeft8.data.toList.drop 0 = dktX2_rotateLeft8_0 := by decide +kernel
theorem dX2_rotateLeft8_0 : decode cX2_rotateLeft8 0 = .ok (.lload_n 1, 1) := dk_31 (dk_at dksX2_rotateLeft8_0 0 rfl rfl)
theorem dX2_rotateLeft8_1 : decode cX2_rotateLeft8 1 = .ok (.bipush 8, 2) := dk_16 8 (dk_at dksX2_rotateLeft8_0 1 rfl rfl)
theorem dX2_rotateLeft8_3 : decode cX2_rotateLeft8 3 = .ok (.lshl, 1) := dk_121 (dk_at dksX2_rotateLeft8_0 3 rfl rfl)
theorem dX2_rotateLeft8_4 : decode cX2_rotateLeft8 4 = .ok (.lload_n 1, 1) := dk_31 (dk_at dksX2_rotateLeft8_0 4 rfl rfl)
theorem dX2_rotateLeft8_5 : decode cX2_rotateLeft8 5 = .ok (.bipush 56, 2) := dk_16 56 (dk_at dksX2_rotateLeft8_0 5 rfl rfl)
theorem dX2_rotateLeft8_7 : decode cX2_rotateLeft8 7 = .ok (.lushr, 1) := dk_125 (dk_at dksX2_rotateLeft8_0 7 rfl rfl)
theorem dX2_rotateLeft8_8 : decode cX2_rotateLeft8 8 = .ok (.lor, 1) := dk_129 (dk_at dksX2_rotateLeft8_0 8 rfl rfl)
theorem dX2_rotateLeft8_9 : decode cX2_rotateLeft8 9 = .ok (.lreturn, 1) := dk_173 (dk_at dksX2_rotateLeft8_0 9 rfl rfl)
abbrev cX2_processBlock : ByteArray := prog_7_method_3_code
def yX2_processBlock : MethodName := ⟨RX2, "processBlock", "([BI[BI)I"⟩
def dkwX2_processBlock_9 : List UInt8 := [21, 4, 16, 8, 96, 22, 5, 182, 0, 56, 16, 16, 172]
abbrev dktX2_processBlock_9 : List UInt8 := dkwX2_processBlock_9 ++ []
def dkwX2_processBlock_8 : List UInt8 := [22, 10, 55, 5, 132, 9, 255, 167, 255, 209, 42, 45, 21, 4, 3, 96, 22, 7, 182, 0, 56, 42, 45]
abbrev dktX2_processBlock_8 : List UInt8 := dkwX2_processBlock_8 ++ dktX2_processBlock_9
def dkwX2_processBlock_7 : List UInt8 := [21, 9, 104, 46, 42, 180, 0, 27, 5, 21, 9, 104, 4, 96, 46, 22, 7, 182, 0, 52, 131, 55, 7]
abbrev dktX2_processBlock_7 : List UInt8 := dkwX2_processBlock_7 ++ dktX2_processBlock_8
def dkwX2_processBlock_6 : List UInt8 := [167, 0, 57, 16, 15, 54, 9, 21, 9, 155, 0, 48, 22, 7, 55, 10, 22, 5, 42, 42, 180, 0, 27, 5]
abbrev dktX2_processBlock_6 : List UInt8 := dkwX2_processBlock_6 ++ dktX2_processBlock_7
def dkwX2_processBlock_5 : List UInt8 := [21, 9, 104, 4, 96, 46, 22, 7, 182, 0, 52, 131, 55, 7, 22, 10, 55, 5, 132, 9, 1, 167, 255, 207]
abbrev dktX2_processBlock_5 : List UInt8 := dkwX2_processBlock_5 ++ dktX2_processBlock_6
def dkwX2_processBlock_4 : List UInt8 := [162, 0, 48, 22, 7, 55, 10, 22, 5, 42, 42, 180, 0, 27, 5, 21, 9, 104, 46, 42, 180, 0, 27, 5]
abbrev dktX2_processBlock_4 : List UInt8 := dkwX2_processBlock_4 ++ dktX2_processBlock_5
def dkwX2_processBlock_3 : List UInt8 := [16, 8, 96, 182, 0, 48, 55, 7, 42, 180, 0, 13, 153, 0, 61, 3, 54, 9, 21, 9, 16, 16]
abbrev dktX2_processBlock_3 : List UInt8 := dkwX2_processBlock_3 ++ dktX2_processBlock_4
def dkwX2_processBlock_2 : List UInt8 := [187, 0, 43, 89, 18, 45, 183, 0, 47, 191, 42, 43, 28, 3, 96, 182, 0, 48, 55, 5, 42, 43, 28]
abbrev dktX2_processBlock_2 : List UInt8 := dkwX2_processBlock_2 ++ dktX2_processBlock_3
def dkwX2_processBlock_1 : List UInt8 := [164, 0, 13, 187, 0, 38, 89, 18, 40, 183, 0, 42, 191, 21, 4, 16, 16, 96, 45, 190, 164, 0, 13]
abbrev dktX2_processBlock_1 : List UInt8 := dkwX2_processBlock_1 ++ dktX2_processBlock_2
def dkwX2_processBlock_0 : List UInt8 := [42, 180, 0, 27, 199, 0, 13, 187, 0, 31, 89, 18, 33, 183, 0, 35, 191, 28, 16, 16, 96, 43, 190]
abbrev dktX2_processBlock_0 : List UInt8 := dkwX2_processBlock_0 ++ dktX2_processBlock_1
theorem dksX2_processBlock_0 : cX2_processBlock.data.toList.drop 0 = dktX2_processBlock_0 := by decide +kernel
theorem dksX2_processBlock_1 : cX2_processBlock.data.toList.drop 23 = dktX2_processBlock_1 := dk_seg dksX2_processBlock_0 23 rfl rfl
theorem dksX2_processBlock_2 : cX2_processBlock.data.toList.drop 46 = dktX2_processBlock_2 := dk_seg dksX2_processBlock_1 23 rfl rfl
theorem dksX2_processBlock_3 : cX2_processBlock.data.toList.drop 69 = dktX2_processBlock_3 := dk_seg dksX2_processBlock_2 23 rfl rfl
theorem dksX2_processBlock_4 : cX2_processBlock.data.toList.drop 91 = dktX2_processBlock_4 := dk_seg dksX2_processBlock_3 22 rfl rfl
theorem dksX2_processBlock_5 : cX2_processBlock.data.toList.drop 115 = dktX2_processBlock_5 := dk_seg dksX2_processBlock_4 24 rfl rfl
theorem dksX2_processBlock_6 : cX2_processBlock.data.toList.drop 139 = dktX2_processBlock_6 := dk_seg dksX2_processBlock_5 24 rfl rfl
theorem dksX2_processBlock_7 : cX2_processBlock.data.toList.drop 163 = dktX2_processBlock_7 := dk_seg dksX2_processBlock_6 24 rfl rfl
theorem dksX2_processBlock_8 : cX2_processBlock.data.toList.drop 186 = dktX2_processBlock_8 := dk_seg dksX2_processBlock_7 23 rfl rfl
theorem dksX2_processBlock_9 : cX2_processBlock.data.toList.drop 209 = dktX2_processBlock_9 := dk_seg dksX2_processBlock_8 23 rfl rfl
theorem dX2_processBlock_0 : decode cX2_processBlock 0 = .ok (.aload_n 0, 1) := dk_42 (dk_at dksX2_processBlock_0 0 rfl rfl)
theorem dX2_processBlock_1 : decode cX2_processBlock 1 = .ok (.getfield 27, 3) := dk_180 0 27 (dk_at dksX2_processBlock_0 1 rfl rfl)
theorem dX2_processBlock_4 : decode cX2_processBlock 4 = .ok (.ifnonnull 13, 3) := dk_199 0 13 (dk_at dksX2_processBlock_0 4 rfl rfl)
theorem dX2_processBlock_7 : decode cX2_processBlock 7 = .ok (.new 31, 3) := dk_187 0 31 (dk_at dksX2_processBlock_0 7 rfl rfl)
theorem dX2_processBlock_10 : decode cX2_processBlock 10 = .ok (.dup, 1) := dk_89 (dk_at dksX2_processBlock_0 10 rfl rfl)
theorem dX2_processBlock_11 : decode cX2_processBlock 11 = .ok (.ldc 33, 2) := dk_18 33 (dk_at dksX2_processBlock_0 11 rfl rfl)
theorem dX2_processBlock_13 : decode cX2_processBlock 13 = .ok (.invokespecial 35, 3) := dk_183 0 35 (dk_at dksX2_processBlock_0 13 rfl rfl)
theorem dX2_processBlock_16 : decode cX2_processBlock 16 = .ok (.athrow, 1) := dk_191 (dk_at dksX2_processBlock_0 16 rfl rfl)
theorem dX2_processBlock_17 : decode cX2_processBlock 17 = .ok (.iload_n 2, 1) := dk_28 (dk_at dksX2_processBlock_0 17 rfl rfl)
theorem dX2_processBlock_18 : decode cX2_processBlock 18 = .ok (.bipush 16, 2) := dk_16 16 (dk_at dksX2_processBlock_0 18 rfl rfl)
theorem dX2_processBlock_20 : decode cX2_processBlock 20 = .ok (.iadd, 1) := dk_96 (dk_at dksX2_processBlock_0 20 rfl rfl)
theorem dX2_processBlock_21 : decode cX2_processBlock 21 = .ok (.aload_n 1, 1) := dk_43 (dk_at dksX2_processBlock_0 21 rfl rfl)
theorem dX2_processBlock_22 : decode cX2_processBlock 22 = .ok (.arraylength, 1) := dk_190 (dk_at dksX2_processBlock_0 22 rfl rfl)
theorem dX2_processBlock_23 : decode cX2_processBlock 23 = .ok (.if_icmp .le 13, 3) := dk_164 0 13 (dk_at dksX2_processBlock_1 0 rfl rfl)
theorem dX2_processBlock_26 : decode cX2_processBlock 26 = .ok (.new 38, 3) := dk_187 0 38 (dk_at dksX2_processBlock_1 3 rfl rfl)
theorem dX2_processBlock_29 : decode cX2_processBlock 29 = .ok (.dup, 1) := dk_89 (dk_at dksX2_processBlock_1 6 rfl rfl)
theorem dX2_processBlock_30 : decode cX2_processBlock 30 = .ok (.ldc 40, 2) := dk_18 40 (dk_at dksX2_processBlock_1 7 rfl rfl)
theorem dX2_processBlock_32 : decode cX2_processBlock 32 = .ok (.invokespecial 42, 3) := dk_183 0 42 (dk_at dksX2_processBlock_1 9 rfl rfl)
theorem dX2_processBlock_35 : decode cX2_processBlock 35 = .ok (.athrow, 1) := dk_191 (dk_at dksX2_processBlock_1 12 rfl rfl)
theorem dX2_processBlock_36 : decode cX2_processBlock 36 = .ok (.iload 4, 2) := dk_21 4 (dk_at dksX2_processBlock_1 13 rfl rfl)
theorem dX2_processBlock_38 : decode cX2_processBlock 38 = .ok (.bipush 16, 2) := dk_16 16 (dk_at dksX2_processBlock_1 15 rfl rfl)
theorem dX2_processBlock_40 : decode cX2_processBlock 40 = .ok (.iadd, 1) := dk_96 (dk_at dksX2_processBlock_1 17 rfl rfl)
theorem dX2_processBlock_41 : decode cX2_processBlock 41 = .ok (.aload_n 3, 1) := dk_45 (dk_at dksX2_processBlock_1 18 rfl rfl)
theorem dX2_processBlock_42 : decode cX2_processBlock 42 = .ok (.arraylength, 1) := dk_190 (dk_at dksX2_processBlock_1 19 rfl rfl)
theorem dX2_processBlock_43 : decode cX2_processBlock 43 = .ok (.if_icmp .le 13, 3) := dk_164 0 13 (dk_at dksX2_processBlock_1 20 rfl rfl)
theorem dX2_processBlock_46 : decode cX2_processBlock 46 = .ok (.new 43, 3) := dk_187 0 43 (dk_at dksX2_processBlock_2 0 rfl rfl)
theorem dX2_processBlock_49 : decode cX2_processBlock 49 = .ok (.dup, 1) := dk_89 (dk_at dksX2_processBlock_2 3 rfl rfl)
theorem dX2_processBlock_50 : decode cX2_processBlock 50 = .ok (.ldc 45, 2) := dk_18 45 (dk_at dksX2_processBlock_2 4 rfl rfl)
theorem dX2_processBlock_52 : decode cX2_processBlock 52 = .ok (.invokespecial 47, 3) := dk_183 0 47 (dk_at dksX2_processBlock_2 6 rfl rfl)
theorem dX2_processBlock_55 : decode cX2_processBlock 55 = .ok (.athrow, 1) := dk_191 (dk_at dksX2_processBlock_2 9 rfl rfl)
theorem dX2_processBlock_56 : decode cX2_processBlock 56 = .ok (.aload_n 0, 1) := dk_42 (dk_at dksX2_processBlock_2 10 rfl rfl)
theorem dX2_processBlock_57 : decode cX2_processBlock 57 = .ok (.aload_n 1, 1) := dk_43 (dk_at dksX2_processBlock_2 11 rfl rfl)
theorem dX2_processBlock_58 : decode cX2_processBlock 58 = .ok (.iload_n 2, 1) := dk_28 (dk_at dksX2_processBlock_2 12 rfl rfl)
theorem dX2_processBlock_59 : decode cX2_processBlock 59 = .ok (.iconst 0, 1) := dk_3 (dk_at dksX2_processBlock_2 13 rfl rfl)
theorem dX2_processBlock_60 : decode cX2_processBlock 60 = .ok (.iadd, 1) := dk_96 (dk_at dksX2_processBlock_2 14 rfl rfl)
theorem dX2_processBlock_61 : decode cX2_processBlock 61 = .ok (.invokevirtual 48, 3) := dk_182 0 48 (dk_at dksX2_processBlock_2 15 rfl rfl)
theorem dX2_processBlock_64 : decode cX2_processBlock 64 = .ok (.lstore 5, 2) := dk_55 5 (dk_at dksX2_processBlock_2 18 rfl rfl)
theorem dX2_processBlock_66 : decode cX2_processBlock 66 = .ok (.aload_n 0, 1) := dk_42 (dk_at dksX2_processBlock_2 20 rfl rfl)
theorem dX2_processBlock_67 : decode cX2_processBlock 67 = .ok (.aload_n 1, 1) := dk_43 (dk_at dksX2_processBlock_2 21 rfl rfl)
theorem dX2_processBlock_68 : decode cX2_processBlock 68 = .ok (.iload_n 2, 1) := dk_28 (dk_at dksX2_processBlock_2 22 rfl rfl)
theorem dX2_processBlock_69 : decode cX2_processBlock 69 = .ok (.bipush 8, 2) := dk_16 8 (dk_at dksX2_processBlock_3 0 rfl rfl)
theorem dX2_processBlock_71 : decode cX2_processBlock 71 = .ok (.iadd, 1) := dk_96 (dk_at dksX2_processBlock_3 2 rfl rfl)
theorem dX2_processBlock_72 : decode cX2_processBlock 72 = .ok (.invokevirtual 48, 3) := dk_182 0 48 (dk_at dksX2_processBlock_3 3 rfl rfl)
theorem dX2_processBlock_75 : decode cX2_processBlock 75 = .ok (.lstore 7, 2) := dk_55 7 (dk_at dksX2_processBlock_3 6 rfl rfl)
theorem dX2_processBlock_77 : decode cX2_processBlock 77 = .ok (.aload_n 0, 1) := dk_42 (dk_at dksX2_processBlock_3 8 rfl rfl)
theorem dX2_processBlock_78 : decode cX2_processBlock 78 = .ok (.getfield 13, 3) := dk_180 0 13 (dk_at dksX2_processBlock_3 9 rfl rfl)
theorem dX2_processBlock_81 : decode cX2_processBlock 81 = .ok (.ifCond .eq 61, 3) := dk_153 0 61 (dk_at dksX2_processBlock_3 12 rfl rfl)
theorem dX2_processBlock_84 : decode cX2_processBlock 84 = .ok (.iconst 0, 1) := dk_3 (dk_at dksX2_processBlock_3 15 rfl rfl)
theorem dX2_processBlock_85 : decode cX2_processBlock 85 = .ok (.istore 9, 2) := dk_54 9 (dk_at dksX2_processBlock_3 16 rfl rfl)
theorem dX2_processBlock_87 : decode cX2_processBlock 87 = .ok (.iload 9, 2) := dk_21 9 (dk_at dksX2_processBlock_3 18 rfl rfl)
theorem dX2_processBlock_89 : decode cX2_processBlock 89 = .ok (.bipush 16, 2) := dk_16 16 (dk_at dksX2_processBlock_3 20 rfl rfl)
theorem dX2_processBlock_91 : decode cX2_processBlock 91 = .ok (.if_icmp .ge 48, 3) := dk_162 0 48 (dk_at dksX2_processBlock_4 0 rfl rfl)
theorem dX2_processBlock_94 : decode cX2_processBlock 94 = .ok (.lload 7, 2) := dk_22 7 (dk_at dksX2_processBlock_4 3 rfl rfl)
theorem dX2_processBlock_96 : decode cX2_processBlock 96 = .ok (.lstore 10, 2) := dk_55 10 (dk_at dksX2_processBlock_4 5 rfl rfl)
theorem dX2_processBlock_98 : decode cX2_processBlock 98 = .ok (.lload 5, 2) := dk_22 5 (dk_at dksX2_processBlock_4 7 rfl rfl)
theorem dX2_processBlock_100 : decode cX2_processBlock 100 = .ok (.aload_n 0, 1) := dk_42 (dk_at dksX2_processBlock_4 9 rfl rfl)
theorem dX2_processBlock_101 : decode cX2_processBlock 101 = .ok (.aload_n 0, 1) := dk_42 (dk_at dksX2_processBlock_4 10 rfl rfl)
theorem dX2_processBlock_102 : decode cX2_processBlock 102 = .ok (.getfield 27, 3) := dk_180 0 27 (dk_at dksX2_processBlock_4 11 rfl rfl)
theorem dX2_processBlock_105 : decode cX2_processBlock 105 = .ok (.iconst 2, 1) := dk_5 (dk_at dksX2_processBlock_4 14 rfl rfl)
theorem dX2_processBlock_106 : decode cX2_processBlock 106 = .ok (.iload 9, 2) := dk_21 9 (dk_at dksX2_processBlock_4 15 rfl rfl)
theorem dX2_processBlock_108 : decode cX2_processBlock 108 = .ok (.imul, 1) := dk_104 (dk_at dksX2_processBlock_4 17 rfl rfl)
theorem dX2_processBlock_109 : decode cX2_processBlock 109 = .ok (.iaload, 1) := dk_46 (dk_at dksX2_processBlock_4 18 rfl rfl)
theorem dX2_processBlock_110 : decode cX2_processBlock 110 = .ok (.aload_n 0, 1) := dk_42 (dk_at dksX2_processBlock_4 19 rfl rfl)
theorem dX2_processBlock_111 : decode cX2_processBlock 111 = .ok (.getfield 27, 3) := dk_180 0 27 (dk_at dksX2_processBlock_4 20 rfl rfl)
theorem dX2_processBlock_114 : decode cX2_processBlock 114 = .ok (.iconst 2, 1) := dk_5 (dk_at dksX2_processBlock_4 23 rfl rfl)
theorem dX2_processBlock_115 : decode cX2_processBlock 115 = .ok (.iload 9, 2) := dk_21 9 (dk_at dksX2_processBlock_5 0 rfl rfl)
theorem dX2_processBlock_117 : decode cX2_processBlock 117 = .ok (.imul, 1) := dk_104 (dk_at dksX2_processBlock_5 2 rfl rfl)
theorem dX2_processBlock_118 : decode cX2_processBlock 118 = .ok (.iconst 1, 1) := dk_4 (dk_at dksX2_processBlock_5 3 rfl rfl)
theorem dX2_processBlock_119 : decode cX2_processBlock 119 = .ok (.iadd, 1) := dk_96 (dk_at dksX2_processBlock_5 4 rfl rfl)
theorem dX2_processBlock_120 : decode cX2_processBlock 120 = .ok (.iaload, 1) := dk_46 (dk_at dksX2_processBlock_5 5 rfl rfl)
theorem dX2_processBlock_121 : decode cX2_processBlock 121 = .ok (.lload 7, 2) := dk_22 7 (dk_at dksX2_processBlock_5 6 rfl rfl)
theorem dX2_processBlock_123 : decode cX2_processBlock 123 = .ok (.invokevirtual 52, 3) := dk_182 0 52 (dk_at dksX2_processBlock_5 8 rfl rfl)
theorem dX2_processBlock_126 : decode cX2_processBlock 126 = .ok (.lxor, 1) := dk_131 (dk_at dksX2_processBlock_5 11 rfl rfl)
theorem dX2_processBlock_127 : decode cX2_processBlock 127 = .ok (.lstore 7, 2) := dk_55 7 (dk_at dksX2_processBlock_5 12 rfl rfl)
theorem dX2_processBlock_129 : decode cX2_processBlock 129 = .ok (.lload 10, 2) := dk_22 10 (dk_at dksX2_processBlock_5 14 rfl rfl)
theorem dX2_processBlock_131 : decode cX2_processBlock 131 = .ok (.lstore 5, 2) := dk_55 5 (dk_at dksX2_processBlock_5 16 rfl rfl)
theorem dX2_processBlock_133 : decode cX2_processBlock 133 = .ok (.iinc 9 1, 3) := dk_132 9 1 (dk_at dksX2_processBlock_5 18 rfl rfl)
theorem dX2_processBlock_136 : decode cX2_processBlock 136 = .ok (.goto (-49), 3) := dk_167 255 207 (dk_at dksX2_processBlock_5 21 rfl rfl)
theorem dX2_processBlock_139 : decode cX2_processBlock 139 = .ok (.goto 57, 3) := dk_167 0 57 (dk_at dksX2_processBlock_6 0 rfl rfl)
theorem dX2_processBlock_142 : decode cX2_processBlock 142 = .ok (.bipush 15, 2) := dk_16 15 (dk_at dksX2_processBlock_6 3 rfl rfl)
theorem dX2_processBlock_144 : decode cX2_processBlock 144 = .ok (.istore 9, 2) := dk_54 9 (dk_at dksX2_processBlock_6 5 rfl rfl)
theorem dX2_processBlock_146 : decode cX2_processBlock 146 = .ok (.iload 9, 2) := dk_21 9 (dk_at dksX2_processBlock_6 7 rfl rfl)
theorem dX2_processBlock_148 : decode cX2_processBlock 148 = .ok (.ifCond .lt 48, 3) := dk_155 0 48 (dk_at dksX2_processBlock_6 9 rfl rfl)
theorem dX2_processBlock_151 : decode cX2_processBlock 151 = .ok (.lload 7, 2) := dk_22 7 (dk_at dksX2_processBlock_6 12 rfl rfl)
theorem dX2_processBlock_153 : decode cX2_processBlock 153 = .ok (.lstore 10, 2) := dk_55 10 (dk_at dksX2_processBlock_6 14 rfl rfl)
theorem dX2_processBlock_155 : decode cX2_processBlock 155 = .ok (.lload 5, 2) := dk_22 5 (dk_at dksX2_processBlock_6 16 rfl rfl)
theorem dX2_processBlock_157 : decode cX2_processBlock 157 = .ok (.aload_n 0, 1) := dk_42 (dk_at dksX2_processBlock_6 18 rfl rfl)
theorem dX2_processBlock_158 : decode cX2_processBlock 158 = .ok (.aload_n 0, 1) := dk_42 (dk_at dksX2_processBlock_6 19 rfl rfl)
theorem dX2_processBlock_159 : decode cX2_processBlock 159 = .ok (.getfield 27, 3) := dk_180 0 27 (dk_at dksX2_processBlock_6 20 rfl rfl)
theorem dX2_processBlock_162 : decode cX2_processBlock 162 = .ok (.iconst 2, 1) := dk_5 (dk_at dksX2_processBlock_6 23 rfl rfl)
theorem dX2_processBlock_163 : decode cX2_processBlock 163 = .ok (.iload 9, 2) := dk_21 9 (dk_at dksX2_processBlock_7 0 rfl rfl)
theorem dX2_processBlock_165 : decode cX2_processBlock 165 = .ok (.imul, 1) := dk_104 (dk_at dksX2_processBlock_7 2 rfl rfl)
theorem dX2_processBlock_166 : decode cX2_processBlock 166 = .ok (.iaload, 1) := dk_46 (dk_at dksX2_processBlock_7 3 rfl rfl)
theorem dX2_processBlock_167 : decode cX2_processBlock 167 = .ok (.aload_n 0, 1) := dk_42 (dk_at dksX2_processBlock_7 4 rfl rfl)
theorem dX2_processBlock_168 : decode cX2_processBlock 168 = .ok (.getfield 27, 3) := dk_180 0 27 (dk_at dksX2_processBlock_7 5 rfl rfl)
theorem dX2_processBlock_171 : decode cX2_processBlock 171 = .ok (.iconst 2, 1) := dk_5 (dk_at dksX2_processBlock_7 8 rfl rfl)
theorem dX2_processBlock_172 : decode cX2_processBlock 172 = .ok (.iload 9, 2) := dk_21 9 (dk_at dksX2_processBlock_7 9 rfl rfl)
theorem dX2_processBlock_174 : decode cX2_processBlock 174 = .ok (.imul, 1) := dk_104 (dk_at dksX2_processBlock_7 11 rfl rfl)
theorem dX2_processBlock_175 : decode cX2_processBlock 175 = .ok (.iconst 1, 1) := dk_4 (dk_at dksX2_processBlock_7 12 rfl rfl)
theorem dX2_processBlock_176 : decode cX2_processBlock 176 = .ok (.iadd, 1) := dk_96 (dk_at dksX2_processBlock_7 13 rfl rfl)
theorem dX2_processBlock_177 : decode cX2_processBlock 177 = .ok (.iaload, 1) := dk_46 (dk_at dksX2_processBlock_7 14 rfl rfl)
theorem dX2_processBlock_178 : decode cX2_processBlock 178 = .ok (.lload 7, 2) := dk_22 7 (dk_at dksX2_processBlock_7 15 rfl rfl)
theorem dX2_processBlock_180 : decode cX2_processBlock 180 = .ok (.invokevirtual 52, 3) := dk_182 0 52 (dk_at dksX2_processBlock_7 17 rfl rfl)
theorem dX2_processBlock_183 : decode cX2_processBlock 183 = .ok (.lxor, 1) := dk_131 (dk_at dksX2_processBlock_7 20 rfl rfl)
theorem dX2_processBlock_184 : decode cX2_processBlock 184 = .ok (.lstore 7, 2) := dk_55 7 (dk_at dksX2_processBlock_7 21 rfl rfl)
theorem dX2_processBlock_186 : decode cX2_processBlock 186 = .ok (.lload 10, 2) := dk_22 10 (dk_at dksX2_processBlock_8 0 rfl rfl)
theorem dX2_processBlock_188 : decode cX2_processBlock 188 = .ok (.lstore 5, 2) := dk_55 5 (dk_at dksX2_processBlock_8 2 rfl rfl)
theorem dX2_processBlock_190 : decode cX2_processBlock 190 = .ok (.iinc 9 (-1), 3) := dk_132 9 255 (dk_at dksX2_processBlock_8 4 rfl rfl)
theorem dX2_processBlock_193 : decode cX2_processBlock 193 = .ok (.goto (-47), 3) := dk_167 255 209 (dk_at dksX2_processBlock_8 7 rfl rfl)
theorem dX2_processBlock_196 : decode cX2_processBlock 196 = .ok (.aload_n 0, 1) := dk_42 (dk_at dksX2_processBlock_8 10 rfl rfl)
theorem dX2_processBlock_197 : decode cX2_processBlock 197 = .ok (.aload_n 3, 1) := dk_45 (dk_at dksX2_processBlock_8 11 rfl rfl)
theorem dX2_processBlock_198 : decode cX2_processBlock 198 = .ok (.iload 4, 2) := dk_21 4 (dk_at dksX2_processBlock_8 12 rfl rfl)
theorem dX2_processBlock_200 : decode cX2_processBlock 200 = .ok (.iconst 0, 1) := dk_3 (dk_at dksX2_processBlock_8 14 rfl rfl)
theorem dX2_processBlock_201 : decode cX2_processBlock 201 = .ok (.iadd, 1) := dk_96 (dk_at dksX2_processBlock_8 15 rfl rfl)
theorem dX2_processBlock_202 : decode cX2_processBlock 202 = .ok (.lload 7, 2) := dk_22 7 (dk_at dksX2_processBlock_8 16 rfl rfl)
theorem dX2_processBlock_204 : decode cX2_processBlock 204 = .ok (.invokevirtual 56, 3) := dk_182 0 56 (dk_at dksX2_processBlock_8 18 rfl rfl)
theorem dX2_processBlock_207 : decode cX2_processBlock 207 = .ok (.aload_n 0, 1) := dk_42 (dk_at dksX2_processBlock_8 21 rfl rfl)
theorem dX2_processBlock_208 : decode cX2_processBlock 208 = .ok (.aload_n 3, 1) := dk_45 (dk_at dksX2_processBlock_8 22 rfl rfl)
theorem dX2_processBlock_209 : decode cX2_processBlock 209 = .ok (.iload 4, 2) := dk_21 4 (dk_at dksX2_processBlock_9 0 rfl rfl)
theorem dX2_processBlock_211 : decode cX2_processBlock 211 = .ok (.bipush 8, 2) := dk_16 8 (dk_at dksX2_processBlock_9 2 rfl rfl)
theorem dX2_processBlock_213 : decode cX2_processBlock 213 = .ok (.iadd, 1) := dk_96 (dk_at dksX2_processBlock_9 4 rfl rfl)
theorem dX2_processBlock_214 : decode cX2_processBlock 214 = .ok (.lload 5, 2) := dk_22 5 (dk_at dksX2_processBlock_9 5 rfl rfl)
theorem dX2_processBlock_216 : decode cX2_processBlock 216 = .ok (.invokevirtual 56, 3) := dk_182 0 56 (dk_at dksX2_processBlock_9 7 rfl rfl)
theorem dX2_processBlock_219 : decode cX2_processBlock 219 = .ok (.bipush 16, 2) := dk_16 16 (dk_at dksX2_processBlock_9 10 rfl rfl)
theorem dX2_processBlock_221 : decode cX2_processBlock 221 = .ok (.ireturn, 1) := dk_172 (dk_at dksX2_processBlock_9 12 rfl rfl)
abbrev cX2_F : ByteArray := prog_7_method_12_code
def yX2_F : MethodName := ⟨RX2, "F", "(IIJ)J"⟩
def dkwX2_F_2 : List UInt8 := [20, 0, 105, 127, 129, 173]
abbrev dktX2_F_2 : List UInt8 := dkwX2_F_2 ++ []
def dkwX2_F_1 : List UInt8 := [21, 7, 42, 21, 5, 27, 21, 6, 28, 182, 0, 102, 96, 54, 8, 21, 8, 133, 16, 32, 121, 21, 7, 133]
abbrev dktX2_F_1 : List UInt8 := dkwX2_F_1 ++ dktX2_F_2
def dkwX2_F_0 : List UInt8 := [33, 16, 32, 123, 136, 54, 5, 33, 136, 54, 6, 42, 21, 5, 27, 21, 6, 28, 182, 0, 98, 54, 7]
abbrev dktX2_F_0 : List UInt8 := dkwX2_F_0 ++ dktX2_F_1
theorem dksX2_F_0 : cX2_F.data.toList.drop 0 = dktX2_F_0 := by decide +kernel
theorem dksX2_F_1 : cX2_F.data.toList.drop 23 = dktX2_F_1 := dk_seg dksX2_F_0 23 rfl rfl
theorem dksX2_F_2 : cX2_F.data.toList.drop 47 = dktX2_F_2 := dk_seg dksX2_F_1 24 rfl rfl
theorem dX2_F_0 : decode cX2_F 0 = .ok (.lload_n 3, 1) := dk_33 (dk_at dksX2_F_0 0 rfl rfl)
theorem dX2_F_1 : decode cX2_F 1 = .ok (.bipush 32, 2) := dk_16 32 (dk_at dksX2_F_0 1 rfl rfl)
theorem dX2_F_3 : decode cX2_F 3 = .ok (.lshr, 1) := dk_123 (dk_at dksX2_F_0 3 rfl rfl)
theorem dX2_F_4 : decode cX2_F 4 = .ok (.l2i, 1) := dk_136 (dk_at dksX2_F_0 4 rfl rfl)
theorem dX2_F_5 : decode cX2_F 5 = .ok (.istore 5, 2) := dk_54 5 (dk_at dksX2_F_0 5 rfl rfl)
theorem dX2_F_7 : decode cX2_F 7 = .ok (.lload_n 3, 1) := dk_33 (dk_at dksX2_F_0 7 rfl rfl)
theorem dX2_F_8 : decode cX2_F 8 = .ok (.l2i, 1) := dk_136 (dk_at dksX2_F_0 8 rfl rfl)
theorem dX2_F_9 : decode cX2_F 9 = .ok (.istore 6, 2) := dk_54 6 (dk_at dksX2_F_0 9 rfl rfl)
theorem dX2_F_11 : decode cX2_F 11 = .ok (.aload_n 0, 1) := dk_42 (dk_at dksX2_F_0 11 rfl rfl)
theorem dX2_F_12 : decode cX2_F 12 = .ok (.iload 5, 2) := dk_21 5 (dk_at dksX2_F_0 12 rfl rfl)
theorem dX2_F_14 : decode cX2_F 14 = .ok (.iload_n 1, 1) := dk_27 (dk_at dksX2_F_0 14 rfl rfl)
theorem dX2_F_15 : decode cX2_F 15 = .ok (.iload 6, 2) := dk_21 6 (dk_at dksX2_F_0 15 rfl rfl)
theorem dX2_F_17 : decode cX2_F 17 = .ok (.iload_n 2, 1) := dk_28 (dk_at dksX2_F_0 17 rfl rfl)
theorem dX2_F_18 : decode cX2_F 18 = .ok (.invokevirtual 98, 3) := dk_182 0 98 (dk_at dksX2_F_0 18 rfl rfl)
theorem dX2_F_21 : decode cX2_F 21 = .ok (.istore 7, 2) := dk_54 7 (dk_at dksX2_F_0 21 rfl rfl)
theorem dX2_F_23 : decode cX2_F 23 = .ok (.iload 7, 2) := dk_21 7 (dk_at dksX2_F_1 0 rfl rfl)
theorem dX2_F_25 : decode cX2_F 25 = .ok (.aload_n 0, 1) := dk_42 (dk_at dksX2_F_1 2 rfl rfl)
theorem dX2_F_26 : decode cX2_F 26 = .ok (.iload 5, 2) := dk_21 5 (dk_at dksX2_F_1 3 rfl rfl)
theorem dX2_F_28 : decode cX2_F 28 = .ok (.iload_n 1, 1) := dk_27 (dk_at dksX2_F_1 5 rfl rfl)
theorem dX2_F_29 : decode cX2_F 29 = .ok (.iload 6, 2) := dk_21 6 (dk_at dksX2_F_1 6 rfl rfl)
theorem dX2_F_31 : decode cX2_F 31 = .ok (.iload_n 2, 1) := dk_28 (dk_at dksX2_F_1 8 rfl rfl)
theorem dX2_F_32 : decode cX2_F 32 = .ok (.invokevirtual 102, 3) := dk_182 0 102 (dk_at dksX2_F_1 9 rfl rfl)
theorem dX2_F_35 : decode cX2_F 35 = .ok (.iadd, 1) := dk_96 (dk_at dksX2_F_1 12 rfl rfl)
theorem dX2_F_36 : decode cX2_F 36 = .ok (.istore 8, 2) := dk_54 8 (dk_at dksX2_F_1 13 rfl rfl)
theorem dX2_F_38 : decode cX2_F 38 = .ok (.iload 8, 2) := dk_21 8 (dk_at dksX2_F_1 15 rfl rfl)
theorem dX2_F_40 : decode cX2_F 40 = .ok (.i2l, 1) := dk_133 (dk_at dksX2_F_1 17 rfl rfl)
theorem dX2_F_41 : decode cX2_F 41 = .ok (.bipush 32, 2) := dk_16 32 (dk_at dksX2_F_1 18 rfl rfl)
theorem dX2_F_43 : decode cX2_F 43 = .ok (.lshl, 1) := dk_121 (dk_at dksX2_F_1 20 rfl rfl)
theorem dX2_F_44 : decode cX2_F 44 = .ok (.iload 7, 2) := dk_21 7 (dk_at dksX2_F_1 21 rfl rfl)
theorem dX2_F_46 : decode cX2_F 46 = .ok (.i2l, 1) := dk_133 (dk_at dksX2_F_1 23 rfl rfl)
theorem dX2_F_47 : decode cX2_F 47 = .ok (.ldc2_w 105, 3) := dk_20 0 105 (dk_at dksX2_F_2 0 rfl rfl)
theorem dX2_F_50 : decode cX2_F 50 = .ok (.land, 1) := dk_127 (dk_at dksX2_F_2 3 rfl rfl)
theorem dX2_F_51 : decode cX2_F 51 = .ok (.lor, 1) := dk_129 (dk_at dksX2_F_2 4 rfl rfl)
theorem dX2_F_52 : decode cX2_F 52 = .ok (.lreturn, 1) := dk_173 (dk_at dksX2_F_2 5 rfl rfl)
abbrev cX2_phaseCalc2 : ByteArray := prog_7_method_14_code
def yX2_phaseCalc2 : MethodName := ⟨RX2, "phaseCalc2", "(IIII)I"⟩
def dkwX2_phaseCalc2_1 : List UInt8 := [182, 0, 75, 172]
abbrev dktX2_phaseCalc2_1 : List UInt8 := dkwX2_phaseCalc2_1 ++ []
def dkwX2_phaseCalc2_0 : List UInt8 := [42, 42, 27, 28, 29, 21, 4, 182, 0, 102, 42, 27, 28, 130, 29, 21, 4, 130, 130, 182, 0, 75, 96]
abbrev dktX2_phaseCalc2_0 : List UInt8 := dkwX2_phaseCalc2_0 ++ dktX2_phaseCalc2_1
theorem dksX2_phaseCalc2_0 : cX2_phaseCalc2.data.toList.drop 0 = dktX2_phaseCalc2_0 := by decide +kernel
theorem dksX2_phaseCalc2_1 : cX2_phaseCalc2.data.toList.drop 23 = dktX2_phaseCalc2_1 := dk_seg dksX2_phaseCalc2_0 23 rfl rfl
theorem dX2_phaseCalc2_0 : decode cX2_phaseCalc2 0 = .ok (.aload_n 0, 1) := dk_42 (dk_at dksX2_phaseCalc2_0 0 rfl rfl)
theorem dX2_phaseCalc2_1 : decode cX2_phaseCalc2 1 = .ok (.aload_n 0, 1) := dk_42 (dk_at dksX2_phaseCalc2_0 1 rfl rfl)
theorem dX2_phaseCalc2_2 : decode cX2_phaseCalc2 2 = .ok (.iload_n 1, 1) := dk_27 (dk_at dksX2_phaseCalc2_0 2 rfl rfl)
theorem dX2_phaseCalc2_3 : decode cX2_phaseCalc2 3 = .ok (.iload_n 2, 1) := dk_28 (dk_at dksX2_phaseCalc2_0 3 rfl rfl)
theorem dX2_phaseCalc2_4 : decode cX2_phaseCalc2 4 = .ok (.iload_n 3, 1) := dk_29 (dk_at dksX2_phaseCalc2_0 4 rfl rfl)
theorem dX2_phaseCalc2_5 : decode cX2_phaseCalc2 5 = .ok (.iload 4, 2) := dk_21 4 (dk_at dksX2_phaseCalc2_0 5 rfl rfl)
theorem dX2_phaseCalc2_7 : decode cX2_phaseCalc2 7 = .ok (.invokevirtual 102, 3) := dk_182 0 102 (dk_at dksX2_phaseCalc2_0 7 rfl rfl)
theorem dX2_phaseCalc2_10 : decode cX2_phaseCalc2 10 = .ok (.aload_n 0, 1) := dk_42 (dk_at dksX2_phaseCalc2_0 10 rfl rfl)
theorem dX2_phaseCalc2_11 : decode cX2_phaseCalc2 11 = .ok (.iload_n 1, 1) := dk_27 (dk_at dksX2_phaseCalc2_0 11 rfl rfl)
theorem dX2_phaseCalc2_12 : decode cX2_phaseCalc2 12 = .ok (.iload_n 2, 1) := dk_28 (dk_at dksX2_phaseCalc2_0 12 rfl rfl)
theorem dX2_phaseCalc2_13 : decode cX2_phaseCalc2 13 = .ok (.ixor, 1) := dk_130 (dk_at dksX2_phaseCalc2_0 13 rfl rfl)
theorem dX2_phaseCalc2_14 : decode cX2_phaseCalc2 14 = .ok (.iload_n 3, 1) := dk_29 (dk_at dksX2_phaseCalc2_0 14 rfl rfl)
theorem dX2_phaseCalc2_15 : decode cX2_phaseCalc2 15 = .ok (.iload 4, 2) := dk_21 4 (dk_at dksX2_phaseCalc2_0 15 rfl rfl)
theorem dX2_phaseCalc2_17 : decode cX2_phaseCalc2 17 = .ok (.ixor, 1) := dk_130 (dk_at dksX2_phaseCalc2_0 17 rfl rfl)
theorem dX2_phaseCalc2_18 : decode cX2_phaseCalc2 18 = .ok (.ixor, 1) := dk_130 (dk_at dksX2_phaseCalc2_0 18 rfl rfl)
theorem dX2_phaseCalc2_19 : decode cX2_phaseCalc2 19 = .ok (.invokevirtual 75, 3) := dk_182 0 75 (dk_at dksX2_phaseCalc2_0 19 rfl rfl)
theorem dX2_phaseCalc2_22 : decode cX2_phaseCalc2 22 = .ok (.iadd, 1) := dk_96 (dk_at dksX2_phaseCalc2_0 22 rfl rfl)
theorem dX2_phaseCalc2_23 : decode cX2_phaseCalc2 23 = .ok (.invokevirtual 75, 3) := dk_182 0 75 (dk_at dksX2_phaseCalc2_1 0 rfl rfl)
theorem dX2_phaseCalc2_26 : decode cX2_phaseCalc2 26 = .ok (.ireturn, 1) := dk_172 (dk_at dksX2_phaseCalc2_1 3 rfl rfl)
abbrev cX2_phaseCalc1 : ByteArray := prog_7_method_13_code
def yX2_phaseCalc1 : MethodName := ⟨RX2, "phaseCalc1", "(IIII)I"⟩
def dkwX2_phaseCalc1_0 : List UInt8 := [42, 42, 27, 28, 130, 29, 21, 4, 130, 130, 182, 0, 75, 27, 28, 130, 96, 182, 0, 75, 172]
abbrev dktX2_phaseCalc1_0 : List UInt8 := dkwX2_phaseCalc1_0 ++ []
theorem dksX2_phaseCalc1_0 : cX2_phaseCalc1.data.toList.drop 0 = dktX2_phaseCalc1_0 := by decide +kernel
theorem dX2_phaseCalc1_0 : decode cX2_phaseCalc1 0 = .ok (.aload_n 0, 1) := dk_42 (dk_at dksX2_phaseCalc1_0 0 rfl rfl)
theorem dX2_phaseCalc1_1 : decode cX2_phaseCalc1 1 = .ok (.aload_n 0, 1) := dk_42 (dk_at dksX2_phaseCalc1_0 1 rfl rfl)
theorem dX2_phaseCalc1_2 : decode cX2_phaseCalc1 2 = .ok (.iload_n 1, 1) := dk_27 (dk_at dksX2_phaseCalc1_0 2 rfl rfl)
theorem dX2_phaseCalc1_3 : decode cX2_phaseCalc1 3 = .ok (.iload_n 2, 1) := dk_28 (dk_at dksX2_phaseCalc1_0 3 rfl rfl)
theorem dX2_phaseCalc1_4 : decode cX2_phaseCalc1 4 = .ok (.ixor, 1) := dk_130 (dk_at dksX2_phaseCalc1_0 4 rfl rfl)
theorem dX2_phaseCalc1_5 : decode cX2_phaseCalc1 5 = .ok (.iload_n 3, 1) := dk_29 (dk_at dksX2_phaseCalc1_0 5 rfl rfl)
theorem dX2_phaseCalc1_6 : decode cX2_phaseCalc1 6 = .ok (.iload 4, 2) := dk_21 4 (dk_at dksX2_phaseCalc1_0 6 rfl rfl)
theorem dX2_phaseCalc1_8 : decode cX2_phaseCalc1 8 = .ok (.ixor, 1) := dk_130 (dk_at dksX2_phaseCalc1_0 8 rfl rfl)
theorem dX2_phaseCalc1_9 : decode cX2_phaseCalc1 9 = .ok (.ixor, 1) := dk_130 (dk_at dksX2_phaseCalc1_0 9 rfl rfl)
theorem dX2_phaseCalc1_10 : decode cX2_phaseCalc1 10 = .ok (.invokevirtual 75, 3) := dk_182 0 75 (dk_at dksX2_phaseCalc1_0 10 rfl rfl)
theorem dX2_phaseCalc1_13 : decode cX2_phaseCalc1 13 = .ok (.iload_n 1, 1) := dk_27 (dk_at dksX2_phaseCalc1_0 13 rfl rfl)
theorem dX2_phaseCalc1_14 : decode cX2_phaseCalc1 14 = .ok (.iload_n 2, 1) := dk_28 (dk_at dksX2_phaseCalc1_0 14 rfl rfl)
theorem dX2_phaseCalc1_15 : decode cX2_phaseCalc1 15 = .ok (.ixor, 1) := dk_130 (dk_at dksX2_phaseCalc1_0 15 rfl rfl)
theorem dX2_phaseCalc1_16 : decode cX2_phaseCalc1 16 = .ok (.iadd, 1) := dk_96 (dk_at dksX2_phaseCalc1_0 16 rfl rfl)
theorem dX2_phaseCalc1_17 : decode cX2_phaseCalc1 17 = .ok (.invokevirtual 75, 3) := dk_182 0 75 (dk_at dksX2_phaseCalc1_0 17 rfl rfl)
theorem dX2_phaseCalc1_20 : decode cX2_phaseCalc1 20 = .ok (.ireturn, 1) := dk_172 (dk_at dksX2_phaseCalc1_0 20 rfl rfl)
abbrev cX2_longToBytes : ByteArray := prog_7_method_10_code
def yX2_longToBytes : MethodName := ⟨RX2, "longToBytes", "([BIJ)V"⟩
def dkwX2_longToBytes_1 : List UInt8 := [123, 136, 145, 84, 132, 5, 1, 167, 255, 228, 177]
abbrev dktX2_longToBytes_1 : List UInt8 := dkwX2_longToBytes_1 ++ []
def dkwX2_longToBytes_0 : List UInt8 := [3, 54, 5, 21, 5, 16, 8, 162, 0, 27, 43, 21, 5, 28, 96, 33, 16, 7, 21, 5, 100, 16, 8, 104]
abbrev dktX2_longToBytes_0 : List UInt8 := dkwX2_longToBytes_0 ++ dktX2_longToBytes_1
theorem dksX2_longToBytes_0 : cX2_longToBytes.data.toList.drop 0 = dktX2_longToBytes_0 := by decide +kernel
theorem dksX2_longToBytes_1 : cX2_longToBytes.data.toList.drop 24 = dktX2_longToBytes_1 := dk_seg dksX2_longToBytes_0 24 rfl rfl
theorem dX2_longToBytes_0 : decode cX2_longToBytes 0 = .ok (.iconst 0, 1) := dk_3 (dk_at dksX2_longToBytes_0 0 rfl rfl)
theorem dX2_longToBytes_1 : decode cX2_longToBytes 1 = .ok (.istore 5, 2) := dk_54 5 (dk_at dksX2_longToBytes_0 1 rfl rfl)
theorem dX2_longToBytes_3 : decode cX2_longToBytes 3 = .ok (.iload 5, 2) := dk_21 5 (dk_at dksX2_longToBytes_0 3 rfl rfl)
theorem dX2_longToBytes_5 : decode cX2_longToBytes 5 = .ok (.bipush 8, 2) := dk_16 8 (dk_at dksX2_longToBytes_0 5 rfl rfl)
theorem dX2_longToBytes_7 : decode cX2_longToBytes 7 = .ok (.if_icmp .ge 27, 3) := dk_162 0 27 (dk_at dksX2_longToBytes_0 7 rfl rfl)
theorem dX2_longToBytes_10 : decode cX2_longToBytes 10 = .ok (.aload_n 1, 1) := dk_43 (dk_at dksX2_longToBytes_0 10 rfl rfl)
theorem dX2_longToBytes_11 : decode cX2_longToBytes 11 = .ok (.iload 5, 2) := dk_21 5 (dk_at dksX2_longToBytes_0 11 rfl rfl)
theorem dX2_longToBytes_13 : decode cX2_longToBytes 13 = .ok (.iload_n 2, 1) := dk_28 (dk_at dksX2_longToBytes_0 13 rfl rfl)
theorem dX2_longToBytes_14 : decode cX2_longToBytes 14 = .ok (.iadd, 1) := dk_96 (dk_at dksX2_longToBytes_0 14 rfl rfl)
theorem dX2_longToBytes_15 : decode cX2_longToBytes 15 = .ok (.lload_n 3, 1) := dk_33 (dk_at dksX2_longToBytes_0 15 rfl rfl)
theorem dX2_longToBytes_16 : decode cX2_longToBytes 16 = .ok (.bipush 7, 2) := dk_16 7 (dk_at dksX2_longToBytes_0 16 rfl rfl)
theorem dX2_longToBytes_18 : decode cX2_longToBytes 18 = .ok (.iload 5, 2) := dk_21 5 (dk_at dksX2_longToBytes_0 18 rfl rfl)
theorem dX2_longToBytes_20 : decode cX2_longToBytes 20 = .ok (.isub, 1) := dk_100 (dk_at dksX2_longToBytes_0 20 rfl rfl)
theorem dX2_longToBytes_21 : decode cX2_longToBytes 21 = .ok (.bipush 8, 2) := dk_16 8 (dk_at dksX2_longToBytes_0 21 rfl rfl)
theorem dX2_longToBytes_23 : decode cX2_longToBytes 23 = .ok (.imul, 1) := dk_104 (dk_at dksX2_longToBytes_0 23 rfl rfl)
theorem dX2_longToBytes_24 : decode cX2_longToBytes 24 = .ok (.lshr, 1) := dk_123 (dk_at dksX2_longToBytes_1 0 rfl rfl)
theorem dX2_longToBytes_25 : decode cX2_longToBytes 25 = .ok (.l2i, 1) := dk_136 (dk_at dksX2_longToBytes_1 1 rfl rfl)
theorem dX2_longToBytes_26 : decode cX2_longToBytes 26 = .ok (.i2b, 1) := dk_145 (dk_at dksX2_longToBytes_1 2 rfl rfl)
theorem dX2_longToBytes_27 : decode cX2_longToBytes 27 = .ok (.bastore, 1) := dk_84 (dk_at dksX2_longToBytes_1 3 rfl rfl)
theorem dX2_longToBytes_28 : decode cX2_longToBytes 28 = .ok (.iinc 5 1, 3) := dk_132 5 1 (dk_at dksX2_longToBytes_1 4 rfl rfl)
theorem dX2_longToBytes_31 : decode cX2_longToBytes 31 = .ok (.goto (-28), 3) := dk_167 255 228 (dk_at dksX2_longToBytes_1 7 rfl rfl)
theorem dX2_longToBytes_34 : decode cX2_longToBytes 34 = .ok (.return_, 1) := dk_177 (dk_at dksX2_longToBytes_1 10 rfl rfl)
theorem q15 : (Jvm.Cond.initialized "SEEDEngine") ∈ lw_all := lw_g (lw_at lw_m1 2 rfl) rfl
theorem q39 : (Jvm.Cond.instantiable "SEEDEngine" (3 : Nat)) ∈ lw_all := lw_g (lw_at lw_m1 26 rfl) rfl
theorem q41 : (Jvm.Cond.instanceMethod ({ cls := "SEEDEngine", name := "<init>", desc := "()V" } : Jvm.MethodName)) ∈ lw_all := lw_g (lw_at lw_m1 28 rfl) rfl
theorem q42 : (Jvm.Cond.code ({ cls := "SEEDEngine", name := "<init>", desc := "()V" } : Jvm.MethodName) prog_7_method_1_code (1 : Nat) (Option.none : Option Jvm.ClassFile.FieldType)) ∈ lw_all := lw_g (lw_at lw_m1 29 rfl) rfl
theorem q43 : (Jvm.Cond.methodLink "SEEDEngine" (1 : Nat) ({ cls := "java/lang/Object", name := "<init>", desc := "()V" } : Jvm.MethodName)) ∈ lw_all := lw_g (lw_at lw_m1 30 rfl) rfl
theorem q46 : (Jvm.Cond.fieldLink "SEEDEngine" (7 : Nat) "SEEDEngine" "BLOCK_SIZE" "I") ∈ lw_all := lw_g (lw_at lw_m1 33 rfl) rfl
theorem q47 : (Jvm.Cond.fieldLink "SEEDEngine" (27 : Nat) "SEEDEngine" "wKey" "[I") ∈ lw_all := lw_g (lw_at lw_m1 34 rfl) rfl
theorem q48 : (Jvm.Cond.fieldLink "SEEDEngine" (13 : Nat) "SEEDEngine" "forEncryption" "Z") ∈ lw_all := lw_g (lw_at lw_m1 35 rfl) rfl
theorem q49 : (Jvm.Cond.laysFinal "SEEDEngine" "SEEDEngine" "BLOCK_SIZE" "I") ∈ lw_all := lw_g (lw_at lw_m1 36 rfl) rfl
theorem q50 : (Jvm.Cond.soleField "SEEDEngine" "BLOCK_SIZE") ∈ lw_all := lw_g (lw_at lw_m1 37 rfl) rfl
theorem q51 : (Jvm.Cond.lays "SEEDEngine" "SEEDEngine" "wKey" "[I") ∈ lw_all := lw_g (lw_at lw_m1 38 rfl) rfl
theorem q52 : (Jvm.Cond.soleField "SEEDEngine" "wKey") ∈ lw_all := lw_g (lw_at lw_m1 39 rfl) rfl
theorem q53 : (Jvm.Cond.lays "SEEDEngine" "SEEDEngine" "forEncryption" "Z") ∈ lw_all := lw_g (lw_at lw_m1 40 rfl) rfl
theorem q54 : (Jvm.Cond.soleField "SEEDEngine" "forEncryption") ∈ lw_all := lw_g (lw_at lw_m1 41 rfl) rfl
theorem q55 : (Jvm.Cond.superclass "SEEDEngine" "java/lang/Object") ∈ lw_all := lw_g (lw_at lw_m1 42 rfl) rfl
theorem q80 : (Jvm.Cond.castable "SEEDEngine" "BlockCipher") ∈ lw_tbl := lw_at lw_m1 67 rfl
theorem q81 : (Jvm.Cond.selects "SEEDEngine" ({ cls := "BlockCipher", name := "init", desc := "(ZLCipherParameters;)V" } : Jvm.MethodName) ({ cls := "SEEDEngine", name := "init", desc := "(ZLCipherParameters;)V" } : Jvm.MethodName)) ∈ lw_all := lw_g (lw_at lw_m1 68 rfl) rfl
theorem q82 : (Jvm.Cond.unhidden "SEEDEngine" "init" "(ZLCipherParameters;)V") ∈ lw_tbl := lw_at lw_m1 69 rfl
theorem q83 : (Jvm.Cond.instanceMethod ({ cls := "SEEDEngine", name := "init", desc := "(ZLCipherParameters;)V" } : Jvm.MethodName)) ∈ lw_all := lw_g (lw_at lw_m1 70 rfl) rfl
theorem q84 : (Jvm.Cond.publicMethod ({ cls := "SEEDEngine", name := "init", desc := "(ZLCipherParameters;)V" } : Jvm.MethodName)) ∈ lw_tbl := lw_at lw_m1 71 rfl
theorem q85 : (Jvm.Cond.code ({ cls := "SEEDEngine", name := "init", desc := "(ZLCipherParameters;)V" } : Jvm.MethodName) prog_7_method_2_code (3 : Nat) (Option.none : Option Jvm.ClassFile.FieldType)) ∈ lw_all := lw_g (lw_at lw_m1 72 rfl) rfl
theorem q86 : (Jvm.Cond.classLink "SEEDEngine" (17 : Nat) "KeyParameter") ∈ lw_all := lw_g (lw_at lw_m1 73 rfl) rfl
theorem q87 : (Jvm.Cond.methodLink "SEEDEngine" (19 : Nat) ({ cls := "KeyParameter", name := "getKey", desc := "()[B" } : Jvm.MethodName)) ∈ lw_all := lw_g (lw_at lw_m1 74 rfl) rfl
theorem q91 : (Jvm.Cond.methodLink "SEEDEngine" (23 : Nat) ({ cls := "SEEDEngine", name := "createWorkingKey", desc := "([B)[I" } : Jvm.MethodName)) ∈ lw_all := lw_g (lw_at lw_m1 78 rfl) rfl
theorem q92 : (Jvm.Cond.privateMethod ({ cls := "SEEDEngine", name := "createWorkingKey", desc := "([B)[I" } : Jvm.MethodName)) ∈ lw_tbl := lw_at lw_m1 79 rfl
theorem q93 : (Jvm.Cond.instanceMethod ({ cls := "SEEDEngine", name := "createWorkingKey", desc := "([B)[I" } : Jvm.MethodName)) ∈ lw_all := lw_g (lw_at lw_m1 80 rfl) rfl
theorem q94 : (Jvm.Cond.code ({ cls := "SEEDEngine", name := "createWorkingKey", desc := "([B)[I" } : Jvm.MethodName) prog_7_method_4_code (12 : Nat) (Option.some (Jvm.ClassFile.FieldType.array Jvm.ClassFile.FieldType.int))) ∈ lw_all := lw_g (lw_at lw_m1 81 rfl) rfl
theorem q95 : (Jvm.Cond.classLink "SEEDEngine" (60 : Nat) "java/lang/IllegalArgumentException") ∈ lw_all := lw_g (lw_at lw_m1 82 rfl) rfl
theorem q137 : (Jvm.Cond.stringRef "SEEDEngine" (62 : Nat) "key size must be 128 bits") ∈ lw_tbl := lw_at lw_m1 124 rfl
theorem q138 : (Jvm.Cond.methodLink "SEEDEngine" (64 : Nat) ({ cls := "java/lang/IllegalArgumentException", name := "<init>", desc := "(Ljava/lang/String;)V" } : Jvm.MethodName)) ∈ lw_all := lw_g (lw_at lw_m1 125 rfl) rfl
theorem q163 : (Jvm.Cond.methodLink "SEEDEngine" (48 : Nat) ({ cls := "SEEDEngine", name := "bytesToLong", desc := "([BI)J" } : Jvm.MethodName)) ∈ lw_all := lw_g (lw_at lw_m1 150 rfl) rfl
theorem q164 : (Jvm.Cond.privateMethod ({ cls := "SEEDEngine", name := "bytesToLong", desc := "([BI)J" } : Jvm.MethodName)) ∈ lw_tbl := lw_at lw_m1 151 rfl
theorem q165 : (Jvm.Cond.instanceMethod ({ cls := "SEEDEngine", name := "bytesToLong", desc := "([BI)J" } : Jvm.MethodName)) ∈ lw_all := lw_g (lw_at lw_m1 152 rfl) rfl
theorem q166 : (Jvm.Cond.code ({ cls := "SEEDEngine", name := "bytesToLong", desc := "([BI)J" } : Jvm.MethodName) prog_7_method_9_code (6 : Nat) (Option.some Jvm.ClassFile.FieldType.long)) ∈ lw_all := lw_g (lw_at lw_m1 153 rfl) rfl
theorem q167 : (Jvm.Cond.methodLink "SEEDEngine" (65 : Nat) ({ cls := "SEEDEngine", name := "extractW0", desc := "(J)I" } : Jvm.MethodName)) ∈ lw_all := lw_g (lw_at lw_m1 154 rfl) rfl
theorem q168 : (Jvm.Cond.privateMethod ({ cls := "SEEDEngine", name := "extractW0", desc := "(J)I" } : Jvm.MethodName)) ∈ lw_tbl := lw_at lw_m1 155 rfl
theorem q169 : (Jvm.Cond.instanceMethod ({ cls := "SEEDEngine", name := "extractW0", desc := "(J)I" } : Jvm.MethodName)) ∈ lw_all := lw_g (lw_at lw_m1 156 rfl) rfl
theorem q170 : (Jvm.Cond.code ({ cls := "SEEDEngine", name := "extractW0", desc := "(J)I" } : Jvm.MethodName) prog_7_method_6_code (3 : Nat) (Option.some Jvm.ClassFile.FieldType.int)) ∈ lw_all := lw_g (lw_at lw_m1 157 rfl) rfl
theorem q171 : (Jvm.Cond.methodLink "SEEDEngine" (69 : Nat) ({ cls := "SEEDEngine", name := "extractW1", desc := "(J)I" } : Jvm.MethodName)) ∈ lw_all := lw_g (lw_at lw_m1 158 rfl) rfl
theorem q172 : (Jvm.Cond.privateMethod ({ cls := "SEEDEngine", name := "extractW1", desc := "(J)I" } : Jvm.MethodName)) ∈ lw_tbl := lw_at lw_m1 159 rfl
theorem q173 : (Jvm.Cond.instanceMethod ({ cls := "SEEDEngine", name := "extractW1", desc := "(J)I" } : Jvm.MethodName)) ∈ lw_all := lw_g (lw_at lw_m1 160 rfl) rfl
theorem q174 : (Jvm.Cond.code ({ cls := "SEEDEngine", name := "extractW1", desc := "(J)I" } : Jvm.MethodName) prog_7_method_5_code (3 : Nat) (Option.some Jvm.ClassFile.FieldType.int)) ∈ lw_all := lw_g (lw_at lw_m1 161 rfl) rfl
theorem q175 : (Jvm.Cond.fieldLink "SEEDEngine" (72 : Nat) "SEEDEngine" "KC" "[I") ∈ lw_all := lw_g (lw_at lw_m1 162 rfl) rfl
theorem q176 : (Jvm.Cond.laysStatic "SEEDEngine" "KC" "[I") ∈ lw_tbl := lw_at lw_m1 163 rfl
theorem q177 : (Jvm.Cond.methodLink "SEEDEngine" (75 : Nat) ({ cls := "SEEDEngine", name := "G", desc := "(I)I" } : Jvm.MethodName)) ∈ lw_all := lw_g (lw_at lw_m1 164 rfl) rfl
theorem q178 : (Jvm.Cond.privateMethod ({ cls := "SEEDEngine", name := "G", desc := "(I)I" } : Jvm.MethodName)) ∈ lw_tbl := lw_at lw_m1 165 rfl
theorem q179 : (Jvm.Cond.instanceMethod ({ cls := "SEEDEngine", name := "G", desc := "(I)I" } : Jvm.MethodName)) ∈ lw_all := lw_g (lw_at lw_m1 166 rfl) rfl
theorem q180 : (Jvm.Cond.code ({ cls := "SEEDEngine", name := "G", desc := "(I)I" } : Jvm.MethodName) prog_7_method_11_code (2 : Nat) (Option.some Jvm.ClassFile.FieldType.int)) ∈ lw_all := lw_g (lw_at lw_m1 167 rfl) rfl
theorem q181 : (Jvm.Cond.fieldLink "SEEDEngine" (86 : Nat) "SEEDEngine" "SS0" "[I") ∈ lw_all := lw_g (lw_at lw_m1 168 rfl) rfl
theorem q182 : (Jvm.Cond.laysStatic "SEEDEngine" "SS0" "[I") ∈ lw_tbl := lw_at lw_m1 169 rfl
theorem q183 : (Jvm.Cond.fieldLink "SEEDEngine" (89 : Nat) "SEEDEngine" "SS1" "[I") ∈ lw_all := lw_g (lw_at lw_m1 170 rfl) rfl
theorem q184 : (Jvm.Cond.laysStatic "SEEDEngine" "SS1" "[I") ∈ lw_tbl := lw_at lw_m1 171 rfl
theorem q185 : (Jvm.Cond.fieldLink "SEEDEngine" (92 : Nat) "SEEDEngine" "SS2" "[I") ∈ lw_all := lw_g (lw_at lw_m1 172 rfl) rfl
theorem q186 : (Jvm.Cond.laysStatic "SEEDEngine" "SS2" "[I") ∈ lw_tbl := lw_at lw_m1 173 rfl
theorem q187 : (Jvm.Cond.fieldLink "SEEDEngine" (95 : Nat) "SEEDEngine" "SS3" "[I") ∈ lw_all := lw_g (lw_at lw_m1 174 rfl) rfl
theorem q188 : (Jvm.Cond.laysStatic "SEEDEngine" "SS3" "[I") ∈ lw_tbl := lw_at lw_m1 175 rfl
theorem q189 : (Jvm.Cond.methodLink "SEEDEngine" (79 : Nat) ({ cls := "SEEDEngine", name := "rotateRight8", desc := "(J)J" } : Jvm.MethodName)) ∈ lw_all := lw_g (lw_at lw_m1 176 rfl) rfl
theorem q190 : (Jvm.Cond.privateMethod ({ cls := "SEEDEngine", name := "rotateRight8", desc := "(J)J" } : Jvm.MethodName)) ∈ lw_tbl := lw_at lw_m1 177 rfl
theorem q191 : (Jvm.Cond.instanceMethod ({ cls := "SEEDEngine", name := "rotateRight8", desc := "(J)J" } : Jvm.MethodName)) ∈ lw_all := lw_g (lw_at lw_m1 178 rfl) rfl
theorem q192 : (Jvm.Cond.code ({ cls := "SEEDEngine", name := "rotateRight8", desc := "(J)J" } : Jvm.MethodName) prog_7_method_8_code (3 : Nat) (Option.some Jvm.ClassFile.FieldType.long)) ∈ lw_all := lw_g (lw_at lw_m1 179 rfl) rfl
theorem q193 : (Jvm.Cond.methodLink "SEEDEngine" (83 : Nat) ({ cls := "SEEDEngine", name := "rotateLeft8", desc := "(J)J" } : Jvm.MethodName)) ∈ lw_all := lw_g (lw_at lw_m1 180 rfl) rfl
theorem q194 : (Jvm.Cond.privateMethod ({ cls := "SEEDEngine", name := "rotateLeft8", desc := "(J)J" } : Jvm.MethodName)) ∈ lw_tbl := lw_at lw_m1 181 rfl
theorem q195 : (Jvm.Cond.instanceMethod ({ cls := "SEEDEngine", name := "rotateLeft8", desc := "(J)J" } : Jvm.MethodName)) ∈ lw_all := lw_g (lw_at lw_m1 182 rfl) rfl
theorem q196 : (Jvm.Cond.code ({ cls := "SEEDEngine", name := "rotateLeft8", desc := "(J)J" } : Jvm.MethodName) prog_7_method_7_code (3 : Nat) (Option.some Jvm.ClassFile.FieldType.long)) ∈ lw_all := lw_g (lw_at lw_m1 183 rfl) rfl
theorem q201 : (Jvm.Cond.selects "SEEDEngine" ({ cls := "BlockCipher", name := "processBlock", desc := "([BI[BI)I" } : Jvm.MethodName) ({ cls := "SEEDEngine", name := "processBlock", desc := "([BI[BI)I" } : Jvm.MethodName)) ∈ lw_all := lw_g (lw_at lw_m1 188 rfl) rfl
theorem q202 : (Jvm.Cond.unhidden "SEEDEngine" "processBlock" "([BI[BI)I") ∈ lw_tbl := lw_at lw_m1 189 rfl
theorem q203 : (Jvm.Cond.instanceMethod ({ cls := "SEEDEngine", name := "processBlock", desc := "([BI[BI)I" } : Jvm.MethodName)) ∈ lw_all := lw_g (lw_at lw_m1 190 rfl) rfl
theorem q204 : (Jvm.Cond.publicMethod ({ cls := "SEEDEngine", name := "processBlock", desc := "([BI[BI)I" } : Jvm.MethodName)) ∈ lw_tbl := lw_at lw_m1 191 rfl
theorem q205 : (Jvm.Cond.code ({ cls := "SEEDEngine", name := "processBlock", desc := "([BI[BI)I" } : Jvm.MethodName) prog_7_method_3_code (12 : Nat) (Option.some Jvm.ClassFile.FieldType.int)) ∈ lw_all := lw_g (lw_at lw_m1 192 rfl) rfl
theorem q206 : (Jvm.Cond.classLink "SEEDEngine" (31 : Nat) "java/lang/IllegalStateException") ∈ lw_all := lw_g (lw_at lw_m1 193 rfl) rfl
theorem q215 : (Jvm.Cond.stringRef "SEEDEngine" (33 : Nat) "SEED engine not initialised") ∈ lw_tbl := lw_at lw_m1 202 rfl
theorem q216 : (Jvm.Cond.methodLink "SEEDEngine" (35 : Nat) ({ cls := "java/lang/IllegalStateException", name := "<init>", desc := "(Ljava/lang/String;)V" } : Jvm.MethodName)) ∈ lw_all := lw_g (lw_at lw_m1 203 rfl) rfl
theorem q223 : (Jvm.Cond.classLink "SEEDEngine" (38 : Nat) "DataLengthException") ∈ lw_all := lw_g (lw_at lw_m1 210 rfl) rfl
theorem q233 : (Jvm.Cond.stringRef "SEEDEngine" (40 : Nat) "input buffer too short") ∈ lw_tbl := lw_at lw_m1 220 rfl
theorem q234 : (Jvm.Cond.methodLink "SEEDEngine" (42 : Nat) ({ cls := "DataLengthException", name := "<init>", desc := "(Ljava/lang/String;)V" } : Jvm.MethodName)) ∈ lw_all := lw_g (lw_at lw_m1 221 rfl) rfl
theorem q243 : (Jvm.Cond.classLink "SEEDEngine" (43 : Nat) "OutputLengthException") ∈ lw_all := lw_g (lw_at lw_m1 230 rfl) rfl
theorem q253 : (Jvm.Cond.stringRef "SEEDEngine" (45 : Nat) "output buffer too short") ∈ lw_tbl := lw_at lw_m2 0 rfl
theorem q254 : (Jvm.Cond.methodLink "SEEDEngine" (47 : Nat) ({ cls := "OutputLengthException", name := "<init>", desc := "(Ljava/lang/String;)V" } : Jvm.MethodName)) ∈ lw_all := lw_g (lw_at lw_m2 1 rfl) rfl
theorem q260 : (Jvm.Cond.methodLink "SEEDEngine" (52 : Nat) ({ cls := "SEEDEngine", name := "F", desc := "(IIJ)J" } : Jvm.MethodName)) ∈ lw_all := lw_g (lw_at lw_m2 7 rfl) rfl
theorem q261 : (Jvm.Cond.privateMethod ({ cls := "SEEDEngine", name := "F", desc := "(IIJ)J" } : Jvm.MethodName)) ∈ lw_tbl := lw_at lw_m2 8 rfl
theorem q262 : (Jvm.Cond.instanceMethod ({ cls := "SEEDEngine", name := "F", desc := "(IIJ)J" } : Jvm.MethodName)) ∈ lw_all := lw_g (lw_at lw_m2 9 rfl) rfl
theorem q263 : (Jvm.Cond.code ({ cls := "SEEDEngine", name := "F", desc := "(IIJ)J" } : Jvm.MethodName) prog_7_method_12_code (9 : Nat) (Option.some Jvm.ClassFile.FieldType.long)) ∈ lw_all := lw_g (lw_at lw_m2 10 rfl) rfl
theorem q264 : (Jvm.Cond.methodLink "SEEDEngine" (98 : Nat) ({ cls := "SEEDEngine", name := "phaseCalc2", desc := "(IIII)I" } : Jvm.MethodName)) ∈ lw_all := lw_g (lw_at lw_m2 11 rfl) rfl
theorem q265 : (Jvm.Cond.privateMethod ({ cls := "SEEDEngine", name := "phaseCalc2", desc := "(IIII)I" } : Jvm.MethodName)) ∈ lw_tbl := lw_at lw_m2 12 rfl
theorem q266 : (Jvm.Cond.instanceMethod ({ cls := "SEEDEngine", name := "phaseCalc2", desc := "(IIII)I" } : Jvm.MethodName)) ∈ lw_all := lw_g (lw_at lw_m2 13 rfl) rfl
theorem q267 : (Jvm.Cond.code ({ cls := "SEEDEngine", name := "phaseCalc2", desc := "(IIII)I" } : Jvm.MethodName) prog_7_method_14_code (5 : Nat) (Option.some Jvm.ClassFile.FieldType.int)) ∈ lw_all := lw_g (lw_at lw_m2 14 rfl) rfl
theorem q268 : (Jvm.Cond.methodLink "SEEDEngine" (102 : Nat) ({ cls := "SEEDEngine", name := "phaseCalc1", desc := "(IIII)I" } : Jvm.MethodName)) ∈ lw_all := lw_g (lw_at lw_m2 15 rfl) rfl
theorem q269 : (Jvm.Cond.privateMethod ({ cls := "SEEDEngine", name := "phaseCalc1", desc := "(IIII)I" } : Jvm.MethodName)) ∈ lw_tbl := lw_at lw_m2 16 rfl
theorem q270 : (Jvm.Cond.instanceMethod ({ cls := "SEEDEngine", name := "phaseCalc1", desc := "(IIII)I" } : Jvm.MethodName)) ∈ lw_all := lw_g (lw_at lw_m2 17 rfl) rfl
theorem q271 : (Jvm.Cond.code ({ cls := "SEEDEngine", name := "phaseCalc1", desc := "(IIII)I" } : Jvm.MethodName) prog_7_method_13_code (5 : Nat) (Option.some Jvm.ClassFile.FieldType.int)) ∈ lw_all := lw_g (lw_at lw_m2 18 rfl) rfl
theorem q272 : (Jvm.Cond.constantLong "SEEDEngine" (105 : Nat) (4294967295 : Int64)) ∈ lw_all := lw_g (lw_at lw_m2 19 rfl) rfl
theorem q273 : (Jvm.Cond.methodLink "SEEDEngine" (56 : Nat) ({ cls := "SEEDEngine", name := "longToBytes", desc := "([BIJ)V" } : Jvm.MethodName)) ∈ lw_all := lw_g (lw_at lw_m2 20 rfl) rfl
theorem q274 : (Jvm.Cond.privateMethod ({ cls := "SEEDEngine", name := "longToBytes", desc := "([BIJ)V" } : Jvm.MethodName)) ∈ lw_tbl := lw_at lw_m2 21 rfl
theorem q275 : (Jvm.Cond.instanceMethod ({ cls := "SEEDEngine", name := "longToBytes", desc := "([BIJ)V" } : Jvm.MethodName)) ∈ lw_all := lw_g (lw_at lw_m2 22 rfl) rfl
theorem q276 : (Jvm.Cond.code ({ cls := "SEEDEngine", name := "longToBytes", desc := "([BIJ)V" } : Jvm.MethodName) prog_7_method_10_code (6 : Nat) (Option.none : Option Jvm.ClassFile.FieldType)) ∈ lw_all := lw_g (lw_at lw_m2 23 rfl) rfl
theorem in_X2 : ∀ w ∈ wsX20, w ∈ lw_all := lw_in wsX20 [49, 51, 53] (by decide +kernel) (by decide +kernel)
end
section
/-! SeedDesk -/
set_option maxRecDepth 100000
def RX1 : String := "SeedDesk"
def TX1 : u_T := fun k => match k with
  | 0 => ("SeedDesk", "key", "[B", true)
  | 1 => ("SeedDesk", "block", "[B", true)
  | _ => ("SeedDesk", "out", "[B", true)
def tyX1 : Nat → FieldType := fun k => match k with
  | 0 => .array .byte
  | 1 => .array .byte
  | _ => .array .byte
abbrev wsX10 : List Cond := u_ws RX1 TX1 3
theorem nmX1 : ∀ a, a < 3 → ∀ b, b < 3 → a ≠ b → (TX1 a).2.1 ≠ (TX1 b).2.1 := by decide +kernel
theorem tyX1_ok : ∀ k, k < 3 → parseFieldDescriptor (TX1 k).2.2.1 = some (tyX1 k) := by decide +kernel
abbrev cX1_lock : ByteArray := prog_8_method_7_code
def yX1_lock : MethodName := ⟨RX1, "lock", "(I)V"⟩
def dkwX1_lock_0 : List UInt8 := [42, 4, 27, 182, 0, 45, 177]
abbrev dktX1_lock_0 : List UInt8 := dkwX1_lock_0 ++ []
theorem dksX1_lock_0 : cX1_lock.data.toList.drop 0 = dktX1_lock_0 := by decide +kernel
theorem dX1_lock_0 : decode cX1_lock 0 = .ok (.aload_n 0, 1) := dk_42 (dk_at dksX1_lock_0 0 rfl rfl)
theorem dX1_lock_1 : decode cX1_lock 1 = .ok (.iconst 1, 1) := dk_4 (dk_at dksX1_lock_0 1 rfl rfl)
theorem dX1_lock_2 : decode cX1_lock 2 = .ok (.iload_n 1, 1) := dk_27 (dk_at dksX1_lock_0 2 rfl rfl)
theorem dX1_lock_3 : decode cX1_lock 3 = .ok (.invokevirtual 45, 3) := dk_182 0 45 (dk_at dksX1_lock_0 3 rfl rfl)
theorem dX1_lock_6 : decode cX1_lock 6 = .ok (.return_, 1) := dk_177 (dk_at dksX1_lock_0 6 rfl rfl)
abbrev cX1_run : ByteArray := prog_8_method_5_code
def yX1_run : MethodName := ⟨RX1, "run", "(ZI)V"⟩
def dkwX1_run_3 : List UInt8 := [180, 0, 13, 3, 42, 180, 0, 16, 3, 185, 0, 41, 5, 0, 87, 177]
abbrev dktX1_run_3 : List UInt8 := dkwX1_run_3 ++ []
def dkwX1_run_2 : List UInt8 := [58, 5, 25, 5, 27, 187, 0, 30, 89, 25, 4, 183, 0, 32, 185, 0, 35, 3, 0, 25, 5, 42]
abbrev dktX1_run_2 : List UInt8 := dkwX1_run_2 ++ dktX1_run_3
def dkwX1_run_1 : List UInt8 := [21, 5, 42, 180, 0, 7, 21, 5, 51, 84, 132, 5, 1, 167, 255, 235, 187, 0, 27, 89, 183, 0, 29]
abbrev dktX1_run_1 : List UInt8 := dkwX1_run_1 ++ dktX1_run_2
def dkwX1_run_0 : List UInt8 := [28, 6, 126, 184, 0, 23, 62, 29, 188, 8, 58, 4, 3, 54, 5, 21, 5, 29, 162, 0, 21, 25, 4]
abbrev dktX1_run_0 : List UInt8 := dkwX1_run_0 ++ dktX1_run_1
theorem dksX1_run_0 : cX1_run.data.toList.drop 0 = dktX1_run_0 := by decide +kernel
theorem dksX1_run_1 : cX1_run.data.toList.drop 23 = dktX1_run_1 := dk_seg dksX1_run_0 23 rfl rfl
theorem dksX1_run_2 : cX1_run.data.toList.drop 46 = dktX1_run_2 := dk_seg dksX1_run_1 23 rfl rfl
theorem dksX1_run_3 : cX1_run.data.toList.drop 68 = dktX1_run_3 := dk_seg dksX1_run_2 22 rfl rfl
theorem dX1_run_0 : decode cX1_run 0 = .ok (.iload_n 2, 1) := dk_28 (dk_at dksX1_run_0 0 rfl rfl)
theorem dX1_run_1 : decode cX1_run 1 = .ok (.iconst 3, 1) := dk_6 (dk_at dksX1_run_0 1 rfl rfl)
theorem dX1_run_2 : decode cX1_run 2 = .ok (.iand, 1) := dk_126 (dk_at dksX1_run_0 2 rfl rfl)
theorem dX1_run_3 : decode cX1_run 3 = .ok (.invokestatic 23, 3) := dk_184 0 23 (dk_at dksX1_run_0 3 rfl rfl)
theorem dX1_run_6 : decode cX1_run 6 = .ok (.istore_n 3, 1) := dk_62 (dk_at dksX1_run_0 6 rfl rfl)
theorem dX1_run_7 : decode cX1_run 7 = .ok (.iload_n 3, 1) := dk_29 (dk_at dksX1_run_0 7 rfl rfl)
theorem dX1_run_8 : decode cX1_run 8 = .ok (.newarray .byte, 2) := dk_188_8 (dk_at dksX1_run_0 8 rfl rfl)
theorem dX1_run_10 : decode cX1_run 10 = .ok (.astore 4, 2) := dk_58 4 (dk_at dksX1_run_0 10 rfl rfl)
theorem dX1_run_12 : decode cX1_run 12 = .ok (.iconst 0, 1) := dk_3 (dk_at dksX1_run_0 12 rfl rfl)
theorem dX1_run_13 : decode cX1_run 13 = .ok (.istore 5, 2) := dk_54 5 (dk_at dksX1_run_0 13 rfl rfl)
theorem dX1_run_15 : decode cX1_run 15 = .ok (.iload 5, 2) := dk_21 5 (dk_at dksX1_run_0 15 rfl rfl)
theorem dX1_run_17 : decode cX1_run 17 = .ok (.iload_n 3, 1) := dk_29 (dk_at dksX1_run_0 17 rfl rfl)
theorem dX1_run_18 : decode cX1_run 18 = .ok (.if_icmp .ge 21, 3) := dk_162 0 21 (dk_at dksX1_run_0 18 rfl rfl)
theorem dX1_run_21 : decode cX1_run 21 = .ok (.aload 4, 2) := dk_25 4 (dk_at dksX1_run_0 21 rfl rfl)
theorem dX1_run_23 : decode cX1_run 23 = .ok (.iload 5, 2) := dk_21 5 (dk_at dksX1_run_1 0 rfl rfl)
theorem dX1_run_25 : decode cX1_run 25 = .ok (.aload_n 0, 1) := dk_42 (dk_at dksX1_run_1 2 rfl rfl)
theorem dX1_run_26 : decode cX1_run 26 = .ok (.getfield 7, 3) := dk_180 0 7 (dk_at dksX1_run_1 3 rfl rfl)
theorem dX1_run_29 : decode cX1_run 29 = .ok (.iload 5, 2) := dk_21 5 (dk_at dksX1_run_1 6 rfl rfl)
theorem dX1_run_31 : decode cX1_run 31 = .ok (.baload, 1) := dk_51 (dk_at dksX1_run_1 8 rfl rfl)
theorem dX1_run_32 : decode cX1_run 32 = .ok (.bastore, 1) := dk_84 (dk_at dksX1_run_1 9 rfl rfl)
theorem dX1_run_33 : decode cX1_run 33 = .ok (.iinc 5 1, 3) := dk_132 5 1 (dk_at dksX1_run_1 10 rfl rfl)
theorem dX1_run_36 : decode cX1_run 36 = .ok (.goto (-21), 3) := dk_167 255 235 (dk_at dksX1_run_1 13 rfl rfl)
theorem dX1_run_39 : decode cX1_run 39 = .ok (.new 27, 3) := dk_187 0 27 (dk_at dksX1_run_1 16 rfl rfl)
theorem dX1_run_42 : decode cX1_run 42 = .ok (.dup, 1) := dk_89 (dk_at dksX1_run_1 19 rfl rfl)
theorem dX1_run_43 : decode cX1_run 43 = .ok (.invokespecial 29, 3) := dk_183 0 29 (dk_at dksX1_run_1 20 rfl rfl)
theorem dX1_run_46 : decode cX1_run 46 = .ok (.astore 5, 2) := dk_58 5 (dk_at dksX1_run_2 0 rfl rfl)
theorem dX1_run_48 : decode cX1_run 48 = .ok (.aload 5, 2) := dk_25 5 (dk_at dksX1_run_2 2 rfl rfl)
theorem dX1_run_50 : decode cX1_run 50 = .ok (.iload_n 1, 1) := dk_27 (dk_at dksX1_run_2 4 rfl rfl)
theorem dX1_run_51 : decode cX1_run 51 = .ok (.new 30, 3) := dk_187 0 30 (dk_at dksX1_run_2 5 rfl rfl)
theorem dX1_run_54 : decode cX1_run 54 = .ok (.dup, 1) := dk_89 (dk_at dksX1_run_2 8 rfl rfl)
theorem dX1_run_55 : decode cX1_run 55 = .ok (.aload 4, 2) := dk_25 4 (dk_at dksX1_run_2 9 rfl rfl)
theorem dX1_run_57 : decode cX1_run 57 = .ok (.invokespecial 32, 3) := dk_183 0 32 (dk_at dksX1_run_2 11 rfl rfl)
theorem dX1_run_60 : decode cX1_run 60 = .ok (.invokeinterface 35 3, 5) := by decide +kernel
theorem dX1_run_65 : decode cX1_run 65 = .ok (.aload 5, 2) := dk_25 5 (dk_at dksX1_run_2 19 rfl rfl)
theorem dX1_run_67 : decode cX1_run 67 = .ok (.aload_n 0, 1) := dk_42 (dk_at dksX1_run_2 21 rfl rfl)
theorem dX1_run_68 : decode cX1_run 68 = .ok (.getfield 13, 3) := dk_180 0 13 (dk_at dksX1_run_3 0 rfl rfl)
theorem dX1_run_71 : decode cX1_run 71 = .ok (.iconst 0, 1) := dk_3 (dk_at dksX1_run_3 3 rfl rfl)
theorem dX1_run_72 : decode cX1_run 72 = .ok (.aload_n 0, 1) := dk_42 (dk_at dksX1_run_3 4 rfl rfl)
theorem dX1_run_73 : decode cX1_run 73 = .ok (.getfield 16, 3) := dk_180 0 16 (dk_at dksX1_run_3 5 rfl rfl)
theorem dX1_run_76 : decode cX1_run 76 = .ok (.iconst 0, 1) := dk_3 (dk_at dksX1_run_3 8 rfl rfl)
theorem dX1_run_77 : decode cX1_run 77 = .ok (.invokeinterface 41 5, 5) := by decide +kernel
theorem dX1_run_82 : decode cX1_run 82 = .ok (.pop, 1) := dk_87 (dk_at dksX1_run_3 14 rfl rfl)
theorem dX1_run_83 : decode cX1_run 83 = .ok (.return_, 1) := dk_177 (dk_at dksX1_run_3 15 rfl rfl)
abbrev cX1_size : ByteArray := prog_8_method_6_code
def yX1_size : MethodName := ⟨RX1, "size", "(I)I"⟩
theorem dX1_size_0 : decode cX1_size 0 = .ok (.bipush 16, 2) := by decide +kernel
theorem dX1_size_2 : decode cX1_size 2 = .ok (.ireturn, 1) := by decide +kernel
abbrev cX1_open : ByteArray := prog_8_method_8_code
def yX1_open : MethodName := ⟨RX1, "open", "(I)V"⟩
def dkwX1_open_0 : List UInt8 := [42, 3, 27, 182, 0, 45, 177]
abbrev dktX1_open_0 : List UInt8 := dkwX1_open_0 ++ []
theorem dksX1_open_0 : cX1_open.data.toList.drop 0 = dktX1_open_0 := by decide +kernel
theorem dX1_open_0 : decode cX1_open 0 = .ok (.aload_n 0, 1) := dk_42 (dk_at dksX1_open_0 0 rfl rfl)
theorem dX1_open_1 : decode cX1_open 1 = .ok (.iconst 0, 1) := dk_3 (dk_at dksX1_open_0 1 rfl rfl)
theorem dX1_open_2 : decode cX1_open 2 = .ok (.iload_n 1, 1) := dk_27 (dk_at dksX1_open_0 2 rfl rfl)
theorem dX1_open_3 : decode cX1_open 3 = .ok (.invokevirtual 45, 3) := dk_182 0 45 (dk_at dksX1_open_0 3 rfl rfl)
theorem dX1_open_6 : decode cX1_open 6 = .ok (.return_, 1) := dk_177 (dk_at dksX1_open_0 6 rfl rfl)
abbrev cX1_again : ByteArray := prog_8_method_9_code
def yX1_again : MethodName := ⟨RX1, "again", "()V"⟩
def dkwX1_again_1 : List UInt8 := [167, 255, 235, 177]
abbrev dktX1_again_1 : List UInt8 := dkwX1_again_1 ++ []
def dkwX1_again_0 : List UInt8 := [3, 60, 27, 16, 16, 162, 0, 21, 42, 180, 0, 13, 27, 42, 180, 0, 16, 27, 51, 84, 132, 1, 1]
abbrev dktX1_again_0 : List UInt8 := dkwX1_again_0 ++ dktX1_again_1
theorem dksX1_again_0 : cX1_again.data.toList.drop 0 = dktX1_again_0 := by decide +kernel
theorem dksX1_again_1 : cX1_again.data.toList.drop 23 = dktX1_again_1 := dk_seg dksX1_again_0 23 rfl rfl
theorem dX1_again_0 : decode cX1_again 0 = .ok (.iconst 0, 1) := dk_3 (dk_at dksX1_again_0 0 rfl rfl)
theorem dX1_again_1 : decode cX1_again 1 = .ok (.istore_n 1, 1) := dk_60 (dk_at dksX1_again_0 1 rfl rfl)
theorem dX1_again_2 : decode cX1_again 2 = .ok (.iload_n 1, 1) := dk_27 (dk_at dksX1_again_0 2 rfl rfl)
theorem dX1_again_3 : decode cX1_again 3 = .ok (.bipush 16, 2) := dk_16 16 (dk_at dksX1_again_0 3 rfl rfl)
theorem dX1_again_5 : decode cX1_again 5 = .ok (.if_icmp .ge 21, 3) := dk_162 0 21 (dk_at dksX1_again_0 5 rfl rfl)
theorem dX1_again_8 : decode cX1_again 8 = .ok (.aload_n 0, 1) := dk_42 (dk_at dksX1_again_0 8 rfl rfl)
theorem dX1_again_9 : decode cX1_again 9 = .ok (.getfield 13, 3) := dk_180 0 13 (dk_at dksX1_again_0 9 rfl rfl)
theorem dX1_again_12 : decode cX1_again 12 = .ok (.iload_n 1, 1) := dk_27 (dk_at dksX1_again_0 12 rfl rfl)
theorem dX1_again_13 : decode cX1_again 13 = .ok (.aload_n 0, 1) := dk_42 (dk_at dksX1_again_0 13 rfl rfl)
theorem dX1_again_14 : decode cX1_again 14 = .ok (.getfield 16, 3) := dk_180 0 16 (dk_at dksX1_again_0 14 rfl rfl)
theorem dX1_again_17 : decode cX1_again 17 = .ok (.iload_n 1, 1) := dk_27 (dk_at dksX1_again_0 17 rfl rfl)
theorem dX1_again_18 : decode cX1_again 18 = .ok (.baload, 1) := dk_51 (dk_at dksX1_again_0 18 rfl rfl)
theorem dX1_again_19 : decode cX1_again 19 = .ok (.bastore, 1) := dk_84 (dk_at dksX1_again_0 19 rfl rfl)
theorem dX1_again_20 : decode cX1_again 20 = .ok (.iinc 1 1, 3) := dk_132 1 1 (dk_at dksX1_again_0 20 rfl rfl)
theorem dX1_again_23 : decode cX1_again 23 = .ok (.goto (-21), 3) := dk_167 255 235 (dk_at dksX1_again_1 0 rfl rfl)
theorem dX1_again_26 : decode cX1_again 26 = .ok (.return_, 1) := dk_177 (dk_at dksX1_again_1 3 rfl rfl)
abbrev cX1_init : ByteArray := prog_8_method_1_code
def yX1_init : MethodName := ⟨RX1, "<init>", "()V"⟩
def dkwX1_init_1 : List UInt8 := [188, 8, 181, 0, 16, 177]
abbrev dktX1_init_1 : List UInt8 := dkwX1_init_1 ++ []
def dkwX1_init_0 : List UInt8 := [42, 183, 0, 1, 42, 16, 32, 188, 8, 181, 0, 7, 42, 16, 16, 188, 8, 181, 0, 13, 42, 16, 16]
abbrev dktX1_init_0 : List UInt8 := dkwX1_init_0 ++ dktX1_init_1
theorem dksX1_init_0 : cX1_init.data.toList.drop 0 = dktX1_init_0 := by decide +kernel
theorem dksX1_init_1 : cX1_init.data.toList.drop 23 = dktX1_init_1 := dk_seg dksX1_init_0 23 rfl rfl
theorem dX1_init_0 : decode cX1_init 0 = .ok (.aload_n 0, 1) := dk_42 (dk_at dksX1_init_0 0 rfl rfl)
theorem dX1_init_1 : decode cX1_init 1 = .ok (.invokespecial 1, 3) := dk_183 0 1 (dk_at dksX1_init_0 1 rfl rfl)
theorem dX1_init_4 : decode cX1_init 4 = .ok (.aload_n 0, 1) := dk_42 (dk_at dksX1_init_0 4 rfl rfl)
theorem dX1_init_5 : decode cX1_init 5 = .ok (.bipush 32, 2) := dk_16 32 (dk_at dksX1_init_0 5 rfl rfl)
theorem dX1_init_7 : decode cX1_init 7 = .ok (.newarray .byte, 2) := dk_188_8 (dk_at dksX1_init_0 7 rfl rfl)
theorem dX1_init_9 : decode cX1_init 9 = .ok (.putfield 7, 3) := dk_181 0 7 (dk_at dksX1_init_0 9 rfl rfl)
theorem dX1_init_12 : decode cX1_init 12 = .ok (.aload_n 0, 1) := dk_42 (dk_at dksX1_init_0 12 rfl rfl)
theorem dX1_init_13 : decode cX1_init 13 = .ok (.bipush 16, 2) := dk_16 16 (dk_at dksX1_init_0 13 rfl rfl)
theorem dX1_init_15 : decode cX1_init 15 = .ok (.newarray .byte, 2) := dk_188_8 (dk_at dksX1_init_0 15 rfl rfl)
theorem dX1_init_17 : decode cX1_init 17 = .ok (.putfield 13, 3) := dk_181 0 13 (dk_at dksX1_init_0 17 rfl rfl)
theorem dX1_init_20 : decode cX1_init 20 = .ok (.aload_n 0, 1) := dk_42 (dk_at dksX1_init_0 20 rfl rfl)
theorem dX1_init_21 : decode cX1_init 21 = .ok (.bipush 16, 2) := dk_16 16 (dk_at dksX1_init_0 21 rfl rfl)
theorem dX1_init_23 : decode cX1_init 23 = .ok (.newarray .byte, 2) := dk_188_8 (dk_at dksX1_init_1 0 rfl rfl)
theorem dX1_init_25 : decode cX1_init 25 = .ok (.putfield 16, 3) := dk_181 0 16 (dk_at dksX1_init_1 2 rfl rfl)
theorem dX1_init_28 : decode cX1_init 28 = .ok (.return_, 1) := dk_177 (dk_at dksX1_init_1 5 rfl rfl)
abbrev cX1_key : ByteArray := prog_8_method_3_code
def yX1_key : MethodName := ⟨RX1, "key", "(IIIII)V"⟩
def dkwX1_key_2 : List UInt8 := [21, 6, 16, 12, 96, 21, 5, 184, 0, 19, 177]
abbrev dktX1_key_2 : List UInt8 := dkwX1_key_2 ++ []
def dkwX1_key_1 : List UInt8 := [96, 29, 184, 0, 19, 42, 180, 0, 7, 21, 6, 16, 8, 96, 21, 4, 184, 0, 19, 42, 180, 0, 7]
abbrev dktX1_key_1 : List UInt8 := dkwX1_key_1 ++ dktX1_key_2
def dkwX1_key_0 : List UInt8 := [27, 4, 126, 7, 120, 54, 6, 42, 180, 0, 7, 21, 6, 28, 184, 0, 19, 42, 180, 0, 7, 21, 6, 7]
abbrev dktX1_key_0 : List UInt8 := dkwX1_key_0 ++ dktX1_key_1
theorem dksX1_key_0 : cX1_key.data.toList.drop 0 = dktX1_key_0 := by decide +kernel
theorem dksX1_key_1 : cX1_key.data.toList.drop 24 = dktX1_key_1 := dk_seg dksX1_key_0 24 rfl rfl
theorem dksX1_key_2 : cX1_key.data.toList.drop 47 = dktX1_key_2 := dk_seg dksX1_key_1 23 rfl rfl
theorem dX1_key_0 : decode cX1_key 0 = .ok (.iload_n 1, 1) := dk_27 (dk_at dksX1_key_0 0 rfl rfl)
theorem dX1_key_1 : decode cX1_key 1 = .ok (.iconst 1, 1) := dk_4 (dk_at dksX1_key_0 1 rfl rfl)
theorem dX1_key_2 : decode cX1_key 2 = .ok (.iand, 1) := dk_126 (dk_at dksX1_key_0 2 rfl rfl)
theorem dX1_key_3 : decode cX1_key 3 = .ok (.iconst 4, 1) := dk_7 (dk_at dksX1_key_0 3 rfl rfl)
theorem dX1_key_4 : decode cX1_key 4 = .ok (.ishl, 1) := dk_120 (dk_at dksX1_key_0 4 rfl rfl)
theorem dX1_key_5 : decode cX1_key 5 = .ok (.istore 6, 2) := dk_54 6 (dk_at dksX1_key_0 5 rfl rfl)
theorem dX1_key_7 : decode cX1_key 7 = .ok (.aload_n 0, 1) := dk_42 (dk_at dksX1_key_0 7 rfl rfl)
theorem dX1_key_8 : decode cX1_key 8 = .ok (.getfield 7, 3) := dk_180 0 7 (dk_at dksX1_key_0 8 rfl rfl)
theorem dX1_key_11 : decode cX1_key 11 = .ok (.iload 6, 2) := dk_21 6 (dk_at dksX1_key_0 11 rfl rfl)
theorem dX1_key_13 : decode cX1_key 13 = .ok (.iload_n 2, 1) := dk_28 (dk_at dksX1_key_0 13 rfl rfl)
theorem dX1_key_14 : decode cX1_key 14 = .ok (.invokestatic 19, 3) := dk_184 0 19 (dk_at dksX1_key_0 14 rfl rfl)
theorem dX1_key_17 : decode cX1_key 17 = .ok (.aload_n 0, 1) := dk_42 (dk_at dksX1_key_0 17 rfl rfl)
theorem dX1_key_18 : decode cX1_key 18 = .ok (.getfield 7, 3) := dk_180 0 7 (dk_at dksX1_key_0 18 rfl rfl)
theorem dX1_key_21 : decode cX1_key 21 = .ok (.iload 6, 2) := dk_21 6 (dk_at dksX1_key_0 21 rfl rfl)
theorem dX1_key_23 : decode cX1_key 23 = .ok (.iconst 4, 1) := dk_7 (dk_at dksX1_key_0 23 rfl rfl)
theorem dX1_key_24 : decode cX1_key 24 = .ok (.iadd, 1) := dk_96 (dk_at dksX1_key_1 0 rfl rfl)
theorem dX1_key_25 : decode cX1_key 25 = .ok (.iload_n 3, 1) := dk_29 (dk_at dksX1_key_1 1 rfl rfl)
theorem dX1_key_26 : decode cX1_key 26 = .ok (.invokestatic 19, 3) := dk_184 0 19 (dk_at dksX1_key_1 2 rfl rfl)
theorem dX1_key_29 : decode cX1_key 29 = .ok (.aload_n 0, 1) := dk_42 (dk_at dksX1_key_1 5 rfl rfl)
theorem dX1_key_30 : decode cX1_key 30 = .ok (.getfield 7, 3) := dk_180 0 7 (dk_at dksX1_key_1 6 rfl rfl)
theorem dX1_key_33 : decode cX1_key 33 = .ok (.iload 6, 2) := dk_21 6 (dk_at dksX1_key_1 9 rfl rfl)
theorem dX1_key_35 : decode cX1_key 35 = .ok (.bipush 8, 2) := dk_16 8 (dk_at dksX1_key_1 11 rfl rfl)
theorem dX1_key_37 : decode cX1_key 37 = .ok (.iadd, 1) := dk_96 (dk_at dksX1_key_1 13 rfl rfl)
theorem dX1_key_38 : decode cX1_key 38 = .ok (.iload 4, 2) := dk_21 4 (dk_at dksX1_key_1 14 rfl rfl)
theorem dX1_key_40 : decode cX1_key 40 = .ok (.invokestatic 19, 3) := dk_184 0 19 (dk_at dksX1_key_1 16 rfl rfl)
theorem dX1_key_43 : decode cX1_key 43 = .ok (.aload_n 0, 1) := dk_42 (dk_at dksX1_key_1 19 rfl rfl)
theorem dX1_key_44 : decode cX1_key 44 = .ok (.getfield 7, 3) := dk_180 0 7 (dk_at dksX1_key_1 20 rfl rfl)
theorem dX1_key_47 : decode cX1_key 47 = .ok (.iload 6, 2) := dk_21 6 (dk_at dksX1_key_2 0 rfl rfl)
theorem dX1_key_49 : decode cX1_key 49 = .ok (.bipush 12, 2) := dk_16 12 (dk_at dksX1_key_2 2 rfl rfl)
theorem dX1_key_51 : decode cX1_key 51 = .ok (.iadd, 1) := dk_96 (dk_at dksX1_key_2 4 rfl rfl)
theorem dX1_key_52 : decode cX1_key 52 = .ok (.iload 5, 2) := dk_21 5 (dk_at dksX1_key_2 5 rfl rfl)
theorem dX1_key_54 : decode cX1_key 54 = .ok (.invokestatic 19, 3) := dk_184 0 19 (dk_at dksX1_key_2 7 rfl rfl)
theorem dX1_key_57 : decode cX1_key 57 = .ok (.return_, 1) := dk_177 (dk_at dksX1_key_2 10 rfl rfl)
abbrev cX1_word : ByteArray := prog_8_method_2_code
def yX1_word : MethodName := ⟨RX1, "word", "([BII)V"⟩
def dkwX1_word_1 : List UInt8 := [16, 8, 122, 145, 84, 42, 27, 6, 96, 28, 145, 84, 177]
abbrev dktX1_word_1 : List UInt8 := dkwX1_word_1 ++ []
def dkwX1_word_0 : List UInt8 := [42, 27, 28, 16, 24, 122, 145, 84, 42, 27, 4, 96, 28, 16, 16, 122, 145, 84, 42, 27, 5, 96, 28]
abbrev dktX1_word_0 : List UInt8 := dkwX1_word_0 ++ dktX1_word_1
theorem dksX1_word_0 : cX1_word.data.toList.drop 0 = dktX1_word_0 := by decide +kernel
theorem dksX1_word_1 : cX1_word.data.toList.drop 23 = dktX1_word_1 := dk_seg dksX1_word_0 23 rfl rfl
theorem dX1_word_0 : decode cX1_word 0 = .ok (.aload_n 0, 1) := dk_42 (dk_at dksX1_word_0 0 rfl rfl)
theorem dX1_word_1 : decode cX1_word 1 = .ok (.iload_n 1, 1) := dk_27 (dk_at dksX1_word_0 1 rfl rfl)
theorem dX1_word_2 : decode cX1_word 2 = .ok (.iload_n 2, 1) := dk_28 (dk_at dksX1_word_0 2 rfl rfl)
theorem dX1_word_3 : decode cX1_word 3 = .ok (.bipush 24, 2) := dk_16 24 (dk_at dksX1_word_0 3 rfl rfl)
theorem dX1_word_5 : decode cX1_word 5 = .ok (.ishr, 1) := dk_122 (dk_at dksX1_word_0 5 rfl rfl)
theorem dX1_word_6 : decode cX1_word 6 = .ok (.i2b, 1) := dk_145 (dk_at dksX1_word_0 6 rfl rfl)
theorem dX1_word_7 : decode cX1_word 7 = .ok (.bastore, 1) := dk_84 (dk_at dksX1_word_0 7 rfl rfl)
theorem dX1_word_8 : decode cX1_word 8 = .ok (.aload_n 0, 1) := dk_42 (dk_at dksX1_word_0 8 rfl rfl)
theorem dX1_word_9 : decode cX1_word 9 = .ok (.iload_n 1, 1) := dk_27 (dk_at dksX1_word_0 9 rfl rfl)
theorem dX1_word_10 : decode cX1_word 10 = .ok (.iconst 1, 1) := dk_4 (dk_at dksX1_word_0 10 rfl rfl)
theorem dX1_word_11 : decode cX1_word 11 = .ok (.iadd, 1) := dk_96 (dk_at dksX1_word_0 11 rfl rfl)
theorem dX1_word_12 : decode cX1_word 12 = .ok (.iload_n 2, 1) := dk_28 (dk_at dksX1_word_0 12 rfl rfl)
theorem dX1_word_13 : decode cX1_word 13 = .ok (.bipush 16, 2) := dk_16 16 (dk_at dksX1_word_0 13 rfl rfl)
theorem dX1_word_15 : decode cX1_word 15 = .ok (.ishr, 1) := dk_122 (dk_at dksX1_word_0 15 rfl rfl)
theorem dX1_word_16 : decode cX1_word 16 = .ok (.i2b, 1) := dk_145 (dk_at dksX1_word_0 16 rfl rfl)
theorem dX1_word_17 : decode cX1_word 17 = .ok (.bastore, 1) := dk_84 (dk_at dksX1_word_0 17 rfl rfl)
theorem dX1_word_18 : decode cX1_word 18 = .ok (.aload_n 0, 1) := dk_42 (dk_at dksX1_word_0 18 rfl rfl)
theorem dX1_word_19 : decode cX1_word 19 = .ok (.iload_n 1, 1) := dk_27 (dk_at dksX1_word_0 19 rfl rfl)
theorem dX1_word_20 : decode cX1_word 20 = .ok (.iconst 2, 1) := dk_5 (dk_at dksX1_word_0 20 rfl rfl)
theorem dX1_word_21 : decode cX1_word 21 = .ok (.iadd, 1) := dk_96 (dk_at dksX1_word_0 21 rfl rfl)
theorem dX1_word_22 : decode cX1_word 22 = .ok (.iload_n 2, 1) := dk_28 (dk_at dksX1_word_0 22 rfl rfl)
theorem dX1_word_23 : decode cX1_word 23 = .ok (.bipush 8, 2) := dk_16 8 (dk_at dksX1_word_1 0 rfl rfl)
theorem dX1_word_25 : decode cX1_word 25 = .ok (.ishr, 1) := dk_122 (dk_at dksX1_word_1 2 rfl rfl)
theorem dX1_word_26 : decode cX1_word 26 = .ok (.i2b, 1) := dk_145 (dk_at dksX1_word_1 3 rfl rfl)
theorem dX1_word_27 : decode cX1_word 27 = .ok (.bastore, 1) := dk_84 (dk_at dksX1_word_1 4 rfl rfl)
theorem dX1_word_28 : decode cX1_word 28 = .ok (.aload_n 0, 1) := dk_42 (dk_at dksX1_word_1 5 rfl rfl)
theorem dX1_word_29 : decode cX1_word 29 = .ok (.iload_n 1, 1) := dk_27 (dk_at dksX1_word_1 6 rfl rfl)
theorem dX1_word_30 : decode cX1_word 30 = .ok (.iconst 3, 1) := dk_6 (dk_at dksX1_word_1 7 rfl rfl)
theorem dX1_word_31 : decode cX1_word 31 = .ok (.iadd, 1) := dk_96 (dk_at dksX1_word_1 8 rfl rfl)
theorem dX1_word_32 : decode cX1_word 32 = .ok (.iload_n 2, 1) := dk_28 (dk_at dksX1_word_1 9 rfl rfl)
theorem dX1_word_33 : decode cX1_word 33 = .ok (.i2b, 1) := dk_145 (dk_at dksX1_word_1 10 rfl rfl)
theorem dX1_word_34 : decode cX1_word 34 = .ok (.bastore, 1) := dk_84 (dk_at dksX1_word_1 11 rfl rfl)
theorem dX1_word_35 : decode cX1_word 35 = .ok (.return_, 1) := dk_177 (dk_at dksX1_word_1 12 rfl rfl)
abbrev cX1_block : ByteArray := prog_8_method_4_code
def yX1_block : MethodName := ⟨RX1, "block", "(IIII)V"⟩
def dkwX1_block_1 : List UInt8 := [29, 184, 0, 19, 42, 180, 0, 13, 16, 12, 21, 4, 184, 0, 19, 177]
abbrev dktX1_block_1 : List UInt8 := dkwX1_block_1 ++ []
def dkwX1_block_0 : List UInt8 := [42, 180, 0, 13, 3, 27, 184, 0, 19, 42, 180, 0, 13, 7, 28, 184, 0, 19, 42, 180, 0, 13, 16, 8]
abbrev dktX1_block_0 : List UInt8 := dkwX1_block_0 ++ dktX1_block_1
theorem dksX1_block_0 : cX1_block.data.toList.drop 0 = dktX1_block_0 := by decide +kernel
theorem dksX1_block_1 : cX1_block.data.toList.drop 24 = dktX1_block_1 := dk_seg dksX1_block_0 24 rfl rfl
theorem dX1_block_0 : decode cX1_block 0 = .ok (.aload_n 0, 1) := dk_42 (dk_at dksX1_block_0 0 rfl rfl)
theorem dX1_block_1 : decode cX1_block 1 = .ok (.getfield 13, 3) := dk_180 0 13 (dk_at dksX1_block_0 1 rfl rfl)
theorem dX1_block_4 : decode cX1_block 4 = .ok (.iconst 0, 1) := dk_3 (dk_at dksX1_block_0 4 rfl rfl)
theorem dX1_block_5 : decode cX1_block 5 = .ok (.iload_n 1, 1) := dk_27 (dk_at dksX1_block_0 5 rfl rfl)
theorem dX1_block_6 : decode cX1_block 6 = .ok (.invokestatic 19, 3) := dk_184 0 19 (dk_at dksX1_block_0 6 rfl rfl)
theorem dX1_block_9 : decode cX1_block 9 = .ok (.aload_n 0, 1) := dk_42 (dk_at dksX1_block_0 9 rfl rfl)
theorem dX1_block_10 : decode cX1_block 10 = .ok (.getfield 13, 3) := dk_180 0 13 (dk_at dksX1_block_0 10 rfl rfl)
theorem dX1_block_13 : decode cX1_block 13 = .ok (.iconst 4, 1) := dk_7 (dk_at dksX1_block_0 13 rfl rfl)
theorem dX1_block_14 : decode cX1_block 14 = .ok (.iload_n 2, 1) := dk_28 (dk_at dksX1_block_0 14 rfl rfl)
theorem dX1_block_15 : decode cX1_block 15 = .ok (.invokestatic 19, 3) := dk_184 0 19 (dk_at dksX1_block_0 15 rfl rfl)
theorem dX1_block_18 : decode cX1_block 18 = .ok (.aload_n 0, 1) := dk_42 (dk_at dksX1_block_0 18 rfl rfl)
theorem dX1_block_19 : decode cX1_block 19 = .ok (.getfield 13, 3) := dk_180 0 13 (dk_at dksX1_block_0 19 rfl rfl)
theorem dX1_block_22 : decode cX1_block 22 = .ok (.bipush 8, 2) := dk_16 8 (dk_at dksX1_block_0 22 rfl rfl)
theorem dX1_block_24 : decode cX1_block 24 = .ok (.iload_n 3, 1) := dk_29 (dk_at dksX1_block_1 0 rfl rfl)
theorem dX1_block_25 : decode cX1_block 25 = .ok (.invokestatic 19, 3) := dk_184 0 19 (dk_at dksX1_block_1 1 rfl rfl)
theorem dX1_block_28 : decode cX1_block 28 = .ok (.aload_n 0, 1) := dk_42 (dk_at dksX1_block_1 4 rfl rfl)
theorem dX1_block_29 : decode cX1_block 29 = .ok (.getfield 13, 3) := dk_180 0 13 (dk_at dksX1_block_1 5 rfl rfl)
theorem dX1_block_32 : decode cX1_block 32 = .ok (.bipush 12, 2) := dk_16 12 (dk_at dksX1_block_1 8 rfl rfl)
theorem dX1_block_34 : decode cX1_block 34 = .ok (.iload 4, 2) := dk_21 4 (dk_at dksX1_block_1 10 rfl rfl)
theorem dX1_block_36 : decode cX1_block 36 = .ok (.invokestatic 19, 3) := dk_184 0 19 (dk_at dksX1_block_1 12 rfl rfl)
theorem dX1_block_39 : decode cX1_block 39 = .ok (.return_, 1) := dk_177 (dk_at dksX1_block_1 15 rfl rfl)
abbrev cX1_out : ByteArray := prog_8_method_10_code
def yX1_out : MethodName := ⟨RX1, "out", "(I)I"⟩
def dkwX1_out_0 : List UInt8 := [42, 180, 0, 16, 27, 16, 15, 126, 51, 17, 0, 255, 126, 172]
abbrev dktX1_out_0 : List UInt8 := dkwX1_out_0 ++ []
theorem dksX1_out_0 : cX1_out.data.toList.drop 0 = dktX1_out_0 := by decide +kernel
theorem dX1_out_0 : decode cX1_out 0 = .ok (.aload_n 0, 1) := dk_42 (dk_at dksX1_out_0 0 rfl rfl)
theorem dX1_out_1 : decode cX1_out 1 = .ok (.getfield 16, 3) := dk_180 0 16 (dk_at dksX1_out_0 1 rfl rfl)
theorem dX1_out_4 : decode cX1_out 4 = .ok (.iload_n 1, 1) := dk_27 (dk_at dksX1_out_0 4 rfl rfl)
theorem dX1_out_5 : decode cX1_out 5 = .ok (.bipush 15, 2) := dk_16 15 (dk_at dksX1_out_0 5 rfl rfl)
theorem dX1_out_7 : decode cX1_out 7 = .ok (.iand, 1) := dk_126 (dk_at dksX1_out_0 7 rfl rfl)
theorem dX1_out_8 : decode cX1_out 8 = .ok (.baload, 1) := dk_51 (dk_at dksX1_out_0 8 rfl rfl)
theorem dX1_out_9 : decode cX1_out 9 = .ok (.sipush 255, 3) := dk_17 0 255 (dk_at dksX1_out_0 9 rfl rfl)
theorem dX1_out_12 : decode cX1_out 12 = .ok (.iand, 1) := dk_126 (dk_at dksX1_out_0 12 rfl rfl)
theorem dX1_out_13 : decode cX1_out 13 = .ok (.ireturn, 1) := dk_172 (dk_at dksX1_out_0 13 rfl rfl)
theorem q14 : (Jvm.Cond.initialized "SeedDesk") ∈ lw_all := lw_g (lw_at lw_m1 1 rfl) rfl
theorem q27 : (Jvm.Cond.instanceMethod ({ cls := "SeedDesk", name := "lock", desc := "(I)V" } : Jvm.MethodName)) ∈ lw_all := lw_g (lw_at lw_m1 14 rfl) rfl
theorem q28 : (Jvm.Cond.selects "SeedDesk" ({ cls := "SeedDesk", name := "lock", desc := "(I)V" } : Jvm.MethodName) ({ cls := "SeedDesk", name := "lock", desc := "(I)V" } : Jvm.MethodName)) ∈ lw_all := lw_g (lw_at lw_m1 15 rfl) rfl
theorem q29 : (Jvm.Cond.code ({ cls := "SeedDesk", name := "lock", desc := "(I)V" } : Jvm.MethodName) prog_8_method_7_code (2 : Nat) (Option.none : Option Jvm.ClassFile.FieldType)) ∈ lw_all := lw_g (lw_at lw_m1 16 rfl) rfl
theorem q30 : (Jvm.Cond.methodLink "SeedDesk" (45 : Nat) ({ cls := "SeedDesk", name := "run", desc := "(ZI)V" } : Jvm.MethodName)) ∈ lw_all := lw_g (lw_at lw_m1 17 rfl) rfl
theorem q31 : (Jvm.Cond.privateMethod ({ cls := "SeedDesk", name := "run", desc := "(ZI)V" } : Jvm.MethodName)) ∈ lw_tbl := lw_at lw_m1 18 rfl
theorem q32 : (Jvm.Cond.instanceMethod ({ cls := "SeedDesk", name := "run", desc := "(ZI)V" } : Jvm.MethodName)) ∈ lw_all := lw_g (lw_at lw_m1 19 rfl) rfl
theorem q33 : (Jvm.Cond.instantiable "SeedDesk" (3 : Nat)) ∈ lw_all := lw_g (lw_at lw_m1 20 rfl) rfl
theorem q34 : (Jvm.Cond.code ({ cls := "SeedDesk", name := "run", desc := "(ZI)V" } : Jvm.MethodName) prog_8_method_5_code (6 : Nat) (Option.none : Option Jvm.ClassFile.FieldType)) ∈ lw_all := lw_g (lw_at lw_m1 21 rfl) rfl
theorem q35 : (Jvm.Cond.methodLink "SeedDesk" (23 : Nat) ({ cls := "SeedDesk", name := "size", desc := "(I)I" } : Jvm.MethodName)) ∈ lw_all := lw_g (lw_at lw_m1 22 rfl) rfl
theorem q36 : (Jvm.Cond.static ({ cls := "SeedDesk", name := "size", desc := "(I)I" } : Jvm.MethodName)) ∈ lw_all := lw_g (lw_at lw_m1 23 rfl) rfl
theorem q37 : (Jvm.Cond.code ({ cls := "SeedDesk", name := "size", desc := "(I)I" } : Jvm.MethodName) prog_8_method_6_code (1 : Nat) (Option.some Jvm.ClassFile.FieldType.int)) ∈ lw_all := lw_g (lw_at lw_m1 24 rfl) rfl
theorem q38 : (Jvm.Cond.classLink "SeedDesk" (27 : Nat) "SEEDEngine") ∈ lw_all := lw_g (lw_at lw_m1 25 rfl) rfl
theorem q40 : (Jvm.Cond.methodLink "SeedDesk" (29 : Nat) ({ cls := "SEEDEngine", name := "<init>", desc := "()V" } : Jvm.MethodName)) ∈ lw_all := lw_g (lw_at lw_m1 27 rfl) rfl
theorem q57 : (Jvm.Cond.classLink "SeedDesk" (30 : Nat) "KeyParameter") ∈ lw_all := lw_g (lw_at lw_m1 44 rfl) rfl
theorem q59 : (Jvm.Cond.methodLink "SeedDesk" (32 : Nat) ({ cls := "KeyParameter", name := "<init>", desc := "([B)V" } : Jvm.MethodName)) ∈ lw_all := lw_g (lw_at lw_m1 46 rfl) rfl
theorem q76 : (Jvm.Cond.interfaceEntry "SeedDesk" (35 : Nat)) ∈ lw_tbl := lw_at lw_m1 63 rfl
theorem q77 : (Jvm.Cond.methodLink "SeedDesk" (35 : Nat) ({ cls := "BlockCipher", name := "init", desc := "(ZLCipherParameters;)V" } : Jvm.MethodName)) ∈ lw_all := lw_g (lw_at lw_m1 64 rfl) rfl
theorem q197 : (Jvm.Cond.interfaceEntry "SeedDesk" (41 : Nat)) ∈ lw_tbl := lw_at lw_m1 184 rfl
theorem q198 : (Jvm.Cond.methodLink "SeedDesk" (41 : Nat) ({ cls := "BlockCipher", name := "processBlock", desc := "([BI[BI)I" } : Jvm.MethodName)) ∈ lw_all := lw_g (lw_at lw_m1 185 rfl) rfl
theorem q278 : (Jvm.Cond.instanceMethod ({ cls := "SeedDesk", name := "open", desc := "(I)V" } : Jvm.MethodName)) ∈ lw_all := lw_g (lw_at lw_m2 25 rfl) rfl
theorem q279 : (Jvm.Cond.selects "SeedDesk" ({ cls := "SeedDesk", name := "open", desc := "(I)V" } : Jvm.MethodName) ({ cls := "SeedDesk", name := "open", desc := "(I)V" } : Jvm.MethodName)) ∈ lw_all := lw_g (lw_at lw_m2 26 rfl) rfl
theorem q280 : (Jvm.Cond.code ({ cls := "SeedDesk", name := "open", desc := "(I)V" } : Jvm.MethodName) prog_8_method_8_code (2 : Nat) (Option.none : Option Jvm.ClassFile.FieldType)) ∈ lw_all := lw_g (lw_at lw_m2 27 rfl) rfl
theorem q282 : (Jvm.Cond.instanceMethod ({ cls := "SeedDesk", name := "again", desc := "()V" } : Jvm.MethodName)) ∈ lw_all := lw_g (lw_at lw_m2 29 rfl) rfl
theorem q283 : (Jvm.Cond.selects "SeedDesk" ({ cls := "SeedDesk", name := "again", desc := "()V" } : Jvm.MethodName) ({ cls := "SeedDesk", name := "again", desc := "()V" } : Jvm.MethodName)) ∈ lw_all := lw_g (lw_at lw_m2 30 rfl) rfl
theorem q284 : (Jvm.Cond.code ({ cls := "SeedDesk", name := "again", desc := "()V" } : Jvm.MethodName) prog_8_method_9_code (2 : Nat) (Option.none : Option Jvm.ClassFile.FieldType)) ∈ lw_all := lw_g (lw_at lw_m2 31 rfl) rfl
theorem q290 : (Jvm.Cond.instanceMethod ({ cls := "SeedDesk", name := "<init>", desc := "()V" } : Jvm.MethodName)) ∈ lw_all := lw_g (lw_at lw_m2 37 rfl) rfl
theorem q291 : (Jvm.Cond.code ({ cls := "SeedDesk", name := "<init>", desc := "()V" } : Jvm.MethodName) prog_8_method_1_code (1 : Nat) (Option.none : Option Jvm.ClassFile.FieldType)) ∈ lw_all := lw_g (lw_at lw_m2 38 rfl) rfl
theorem q292 : (Jvm.Cond.methodLink "SeedDesk" (1 : Nat) ({ cls := "java/lang/Object", name := "<init>", desc := "()V" } : Jvm.MethodName)) ∈ lw_all := lw_g (lw_at lw_m2 39 rfl) rfl
theorem q293 : (Jvm.Cond.fieldLink "SeedDesk" (7 : Nat) "SeedDesk" "key" "[B") ∈ lw_all := lw_g (lw_at lw_m2 40 rfl) rfl
theorem q294 : (Jvm.Cond.fieldLink "SeedDesk" (13 : Nat) "SeedDesk" "block" "[B") ∈ lw_all := lw_g (lw_at lw_m2 41 rfl) rfl
theorem q295 : (Jvm.Cond.fieldLink "SeedDesk" (16 : Nat) "SeedDesk" "out" "[B") ∈ lw_all := lw_g (lw_at lw_m2 42 rfl) rfl
theorem q296 : (Jvm.Cond.laysFinal "SeedDesk" "SeedDesk" "key" "[B") ∈ lw_all := lw_g (lw_at lw_m2 43 rfl) rfl
theorem q297 : (Jvm.Cond.soleField "SeedDesk" "key") ∈ lw_all := lw_g (lw_at lw_m2 44 rfl) rfl
theorem q298 : (Jvm.Cond.laysFinal "SeedDesk" "SeedDesk" "block" "[B") ∈ lw_all := lw_g (lw_at lw_m2 45 rfl) rfl
theorem q299 : (Jvm.Cond.soleField "SeedDesk" "block") ∈ lw_all := lw_g (lw_at lw_m2 46 rfl) rfl
theorem q300 : (Jvm.Cond.laysFinal "SeedDesk" "SeedDesk" "out" "[B") ∈ lw_all := lw_g (lw_at lw_m2 47 rfl) rfl
theorem q301 : (Jvm.Cond.soleField "SeedDesk" "out") ∈ lw_all := lw_g (lw_at lw_m2 48 rfl) rfl
theorem q302 : (Jvm.Cond.superclass "SeedDesk" "java/lang/Object") ∈ lw_all := lw_g (lw_at lw_m2 49 rfl) rfl
theorem q307 : (Jvm.Cond.instanceMethod ({ cls := "SeedDesk", name := "key", desc := "(IIIII)V" } : Jvm.MethodName)) ∈ lw_all := lw_g (lw_at lw_m2 54 rfl) rfl
theorem q308 : (Jvm.Cond.selects "SeedDesk" ({ cls := "SeedDesk", name := "key", desc := "(IIIII)V" } : Jvm.MethodName) ({ cls := "SeedDesk", name := "key", desc := "(IIIII)V" } : Jvm.MethodName)) ∈ lw_all := lw_g (lw_at lw_m2 55 rfl) rfl
theorem q309 : (Jvm.Cond.code ({ cls := "SeedDesk", name := "key", desc := "(IIIII)V" } : Jvm.MethodName) prog_8_method_3_code (7 : Nat) (Option.none : Option Jvm.ClassFile.FieldType)) ∈ lw_all := lw_g (lw_at lw_m2 56 rfl) rfl
theorem q310 : (Jvm.Cond.methodLink "SeedDesk" (19 : Nat) ({ cls := "SeedDesk", name := "word", desc := "([BII)V" } : Jvm.MethodName)) ∈ lw_all := lw_g (lw_at lw_m2 57 rfl) rfl
theorem q311 : (Jvm.Cond.static ({ cls := "SeedDesk", name := "word", desc := "([BII)V" } : Jvm.MethodName)) ∈ lw_all := lw_g (lw_at lw_m2 58 rfl) rfl
theorem q312 : (Jvm.Cond.code ({ cls := "SeedDesk", name := "word", desc := "([BII)V" } : Jvm.MethodName) prog_8_method_2_code (3 : Nat) (Option.none : Option Jvm.ClassFile.FieldType)) ∈ lw_all := lw_g (lw_at lw_m2 59 rfl) rfl
theorem q314 : (Jvm.Cond.instanceMethod ({ cls := "SeedDesk", name := "block", desc := "(IIII)V" } : Jvm.MethodName)) ∈ lw_all := lw_g (lw_at lw_m2 61 rfl) rfl
theorem q315 : (Jvm.Cond.selects "SeedDesk" ({ cls := "SeedDesk", name := "block", desc := "(IIII)V" } : Jvm.MethodName) ({ cls := "SeedDesk", name := "block", desc := "(IIII)V" } : Jvm.MethodName)) ∈ lw_all := lw_g (lw_at lw_m2 62 rfl) rfl
theorem q316 : (Jvm.Cond.code ({ cls := "SeedDesk", name := "block", desc := "(IIII)V" } : Jvm.MethodName) prog_8_method_4_code (5 : Nat) (Option.none : Option Jvm.ClassFile.FieldType)) ∈ lw_all := lw_g (lw_at lw_m2 63 rfl) rfl
theorem q321 : (Jvm.Cond.instanceMethod ({ cls := "SeedDesk", name := "out", desc := "(I)I" } : Jvm.MethodName)) ∈ lw_all := lw_g (lw_at lw_m2 68 rfl) rfl
theorem q322 : (Jvm.Cond.selects "SeedDesk" ({ cls := "SeedDesk", name := "out", desc := "(I)I" } : Jvm.MethodName) ({ cls := "SeedDesk", name := "out", desc := "(I)I" } : Jvm.MethodName)) ∈ lw_all := lw_g (lw_at lw_m2 69 rfl) rfl
theorem q323 : (Jvm.Cond.code ({ cls := "SeedDesk", name := "out", desc := "(I)I" } : Jvm.MethodName) prog_8_method_10_code (2 : Nat) (Option.some Jvm.ClassFile.FieldType.int)) ∈ lw_all := lw_g (lw_at lw_m2 70 rfl) rfl
theorem in_X1 : ∀ w ∈ wsX10, w ∈ lw_all := lw_in wsX10 [296, 298, 300] (by decide +kernel) (by decide +kernel)
/-! SeedDeskLaw -/
set_option maxRecDepth 100000
def RX0 : String := "SeedDeskLaw"
abbrev cX0_with : ByteArray := method_3_code
def yX0_with : MethodName := ⟨RX0, "with", "([I)LSeedDesk;"⟩
def dkwX0_with_3 : List UInt8 := [184, 0, 10, 42, 16, 10, 184, 0, 10, 42, 16, 11, 184, 0, 10, 182, 0, 20, 43, 176]
abbrev dktX0_with_3 : List UInt8 := dkwX0_with_3 ++ []
def dkwX0_with_2 : List UInt8 := [16, 6, 184, 0, 10, 42, 16, 7, 184, 0, 10, 182, 0, 16, 43, 42, 16, 8, 184, 0, 10, 42, 16, 9]
abbrev dktX0_with_2 : List UInt8 := dkwX0_with_2 ++ dktX0_with_3
def dkwX0_with_1 : List UInt8 := [184, 0, 10, 42, 6, 184, 0, 10, 182, 0, 16, 43, 4, 42, 7, 184, 0, 10, 42, 8, 184, 0, 10, 42]
abbrev dktX0_with_1 : List UInt8 := dkwX0_with_1 ++ dktX0_with_2
def dkwX0_with_0 : List UInt8 := [187, 0, 7, 89, 183, 0, 9, 76, 43, 3, 42, 3, 184, 0, 10, 42, 4, 184, 0, 10, 42, 5]
abbrev dktX0_with_0 : List UInt8 := dkwX0_with_0 ++ dktX0_with_1
theorem dksX0_with_0 : cX0_with.data.toList.drop 0 = dktX0_with_0 := by decide +kernel
theorem dksX0_with_1 : cX0_with.data.toList.drop 22 = dktX0_with_1 := dk_seg dksX0_with_0 22 rfl rfl
theorem dksX0_with_2 : cX0_with.data.toList.drop 46 = dktX0_with_2 := dk_seg dksX0_with_1 24 rfl rfl
theorem dksX0_with_3 : cX0_with.data.toList.drop 70 = dktX0_with_3 := dk_seg dksX0_with_2 24 rfl rfl
theorem dX0_with_0 : decode cX0_with 0 = .ok (.new 7, 3) := dk_187 0 7 (dk_at dksX0_with_0 0 rfl rfl)
theorem dX0_with_3 : decode cX0_with 3 = .ok (.dup, 1) := dk_89 (dk_at dksX0_with_0 3 rfl rfl)
theorem dX0_with_4 : decode cX0_with 4 = .ok (.invokespecial 9, 3) := dk_183 0 9 (dk_at dksX0_with_0 4 rfl rfl)
theorem dX0_with_7 : decode cX0_with 7 = .ok (.astore_n 1, 1) := dk_76 (dk_at dksX0_with_0 7 rfl rfl)
theorem dX0_with_8 : decode cX0_with 8 = .ok (.aload_n 1, 1) := dk_43 (dk_at dksX0_with_0 8 rfl rfl)
theorem dX0_with_9 : decode cX0_with 9 = .ok (.iconst 0, 1) := dk_3 (dk_at dksX0_with_0 9 rfl rfl)
theorem dX0_with_10 : decode cX0_with 10 = .ok (.aload_n 0, 1) := dk_42 (dk_at dksX0_with_0 10 rfl rfl)
theorem dX0_with_11 : decode cX0_with 11 = .ok (.iconst 0, 1) := dk_3 (dk_at dksX0_with_0 11 rfl rfl)
theorem dX0_with_12 : decode cX0_with 12 = .ok (.invokestatic 10, 3) := dk_184 0 10 (dk_at dksX0_with_0 12 rfl rfl)
theorem dX0_with_15 : decode cX0_with 15 = .ok (.aload_n 0, 1) := dk_42 (dk_at dksX0_with_0 15 rfl rfl)
theorem dX0_with_16 : decode cX0_with 16 = .ok (.iconst 1, 1) := dk_4 (dk_at dksX0_with_0 16 rfl rfl)
theorem dX0_with_17 : decode cX0_with 17 = .ok (.invokestatic 10, 3) := dk_184 0 10 (dk_at dksX0_with_0 17 rfl rfl)
theorem dX0_with_20 : decode cX0_with 20 = .ok (.aload_n 0, 1) := dk_42 (dk_at dksX0_with_0 20 rfl rfl)
theorem dX0_with_21 : decode cX0_with 21 = .ok (.iconst 2, 1) := dk_5 (dk_at dksX0_with_0 21 rfl rfl)
theorem dX0_with_22 : decode cX0_with 22 = .ok (.invokestatic 10, 3) := dk_184 0 10 (dk_at dksX0_with_1 0 rfl rfl)
theorem dX0_with_25 : decode cX0_with 25 = .ok (.aload_n 0, 1) := dk_42 (dk_at dksX0_with_1 3 rfl rfl)
theorem dX0_with_26 : decode cX0_with 26 = .ok (.iconst 3, 1) := dk_6 (dk_at dksX0_with_1 4 rfl rfl)
theorem dX0_with_27 : decode cX0_with 27 = .ok (.invokestatic 10, 3) := dk_184 0 10 (dk_at dksX0_with_1 5 rfl rfl)
theorem dX0_with_30 : decode cX0_with 30 = .ok (.invokevirtual 16, 3) := dk_182 0 16 (dk_at dksX0_with_1 8 rfl rfl)
theorem dX0_with_33 : decode cX0_with 33 = .ok (.aload_n 1, 1) := dk_43 (dk_at dksX0_with_1 11 rfl rfl)
theorem dX0_with_34 : decode cX0_with 34 = .ok (.iconst 1, 1) := dk_4 (dk_at dksX0_with_1 12 rfl rfl)
theorem dX0_with_35 : decode cX0_with 35 = .ok (.aload_n 0, 1) := dk_42 (dk_at dksX0_with_1 13 rfl rfl)
theorem dX0_with_36 : decode cX0_with 36 = .ok (.iconst 4, 1) := dk_7 (dk_at dksX0_with_1 14 rfl rfl)
theorem dX0_with_37 : decode cX0_with 37 = .ok (.invokestatic 10, 3) := dk_184 0 10 (dk_at dksX0_with_1 15 rfl rfl)
theorem dX0_with_40 : decode cX0_with 40 = .ok (.aload_n 0, 1) := dk_42 (dk_at dksX0_with_1 18 rfl rfl)
theorem dX0_with_41 : decode cX0_with 41 = .ok (.iconst 5, 1) := dk_8 (dk_at dksX0_with_1 19 rfl rfl)
theorem dX0_with_42 : decode cX0_with 42 = .ok (.invokestatic 10, 3) := dk_184 0 10 (dk_at dksX0_with_1 20 rfl rfl)
theorem dX0_with_45 : decode cX0_with 45 = .ok (.aload_n 0, 1) := dk_42 (dk_at dksX0_with_1 23 rfl rfl)
theorem dX0_with_46 : decode cX0_with 46 = .ok (.bipush 6, 2) := dk_16 6 (dk_at dksX0_with_2 0 rfl rfl)
theorem dX0_with_48 : decode cX0_with 48 = .ok (.invokestatic 10, 3) := dk_184 0 10 (dk_at dksX0_with_2 2 rfl rfl)
theorem dX0_with_51 : decode cX0_with 51 = .ok (.aload_n 0, 1) := dk_42 (dk_at dksX0_with_2 5 rfl rfl)
theorem dX0_with_52 : decode cX0_with 52 = .ok (.bipush 7, 2) := dk_16 7 (dk_at dksX0_with_2 6 rfl rfl)
theorem dX0_with_54 : decode cX0_with 54 = .ok (.invokestatic 10, 3) := dk_184 0 10 (dk_at dksX0_with_2 8 rfl rfl)
theorem dX0_with_57 : decode cX0_with 57 = .ok (.invokevirtual 16, 3) := dk_182 0 16 (dk_at dksX0_with_2 11 rfl rfl)
theorem dX0_with_60 : decode cX0_with 60 = .ok (.aload_n 1, 1) := dk_43 (dk_at dksX0_with_2 14 rfl rfl)
theorem dX0_with_61 : decode cX0_with 61 = .ok (.aload_n 0, 1) := dk_42 (dk_at dksX0_with_2 15 rfl rfl)
theorem dX0_with_62 : decode cX0_with 62 = .ok (.bipush 8, 2) := dk_16 8 (dk_at dksX0_with_2 16 rfl rfl)
theorem dX0_with_64 : decode cX0_with 64 = .ok (.invokestatic 10, 3) := dk_184 0 10 (dk_at dksX0_with_2 18 rfl rfl)
theorem dX0_with_67 : decode cX0_with 67 = .ok (.aload_n 0, 1) := dk_42 (dk_at dksX0_with_2 21 rfl rfl)
theorem dX0_with_68 : decode cX0_with 68 = .ok (.bipush 9, 2) := dk_16 9 (dk_at dksX0_with_2 22 rfl rfl)
theorem dX0_with_70 : decode cX0_with 70 = .ok (.invokestatic 10, 3) := dk_184 0 10 (dk_at dksX0_with_3 0 rfl rfl)
theorem dX0_with_73 : decode cX0_with 73 = .ok (.aload_n 0, 1) := dk_42 (dk_at dksX0_with_3 3 rfl rfl)
theorem dX0_with_74 : decode cX0_with 74 = .ok (.bipush 10, 2) := dk_16 10 (dk_at dksX0_with_3 4 rfl rfl)
theorem dX0_with_76 : decode cX0_with 76 = .ok (.invokestatic 10, 3) := dk_184 0 10 (dk_at dksX0_with_3 6 rfl rfl)
theorem dX0_with_79 : decode cX0_with 79 = .ok (.aload_n 0, 1) := dk_42 (dk_at dksX0_with_3 9 rfl rfl)
theorem dX0_with_80 : decode cX0_with 80 = .ok (.bipush 11, 2) := dk_16 11 (dk_at dksX0_with_3 10 rfl rfl)
theorem dX0_with_82 : decode cX0_with 82 = .ok (.invokestatic 10, 3) := dk_184 0 10 (dk_at dksX0_with_3 12 rfl rfl)
theorem dX0_with_85 : decode cX0_with 85 = .ok (.invokevirtual 20, 3) := dk_182 0 20 (dk_at dksX0_with_3 15 rfl rfl)
theorem dX0_with_88 : decode cX0_with 88 = .ok (.aload_n 1, 1) := dk_43 (dk_at dksX0_with_3 18 rfl rfl)
theorem dX0_with_89 : decode cX0_with 89 = .ok (.areturn, 1) := dk_176 (dk_at dksX0_with_3 19 rfl rfl)
abbrev cX0_cell : ByteArray := method_2_code
def yX0_cell : MethodName := ⟨RX0, "cell", "([II)I"⟩
def dkwX0_cell_0 : List UInt8 := [27, 42, 190, 162, 0, 9, 42, 27, 46, 167, 0, 4, 3, 172]
abbrev dktX0_cell_0 : List UInt8 := dkwX0_cell_0 ++ []
theorem dksX0_cell_0 : cX0_cell.data.toList.drop 0 = dktX0_cell_0 := by decide +kernel
theorem dX0_cell_0 : decode cX0_cell 0 = .ok (.iload_n 1, 1) := dk_27 (dk_at dksX0_cell_0 0 rfl rfl)
theorem dX0_cell_1 : decode cX0_cell 1 = .ok (.aload_n 0, 1) := dk_42 (dk_at dksX0_cell_0 1 rfl rfl)
theorem dX0_cell_2 : decode cX0_cell 2 = .ok (.arraylength, 1) := dk_190 (dk_at dksX0_cell_0 2 rfl rfl)
theorem dX0_cell_3 : decode cX0_cell 3 = .ok (.if_icmp .ge 9, 3) := dk_162 0 9 (dk_at dksX0_cell_0 3 rfl rfl)
theorem dX0_cell_6 : decode cX0_cell 6 = .ok (.aload_n 0, 1) := dk_42 (dk_at dksX0_cell_0 6 rfl rfl)
theorem dX0_cell_7 : decode cX0_cell 7 = .ok (.iload_n 1, 1) := dk_27 (dk_at dksX0_cell_0 7 rfl rfl)
theorem dX0_cell_8 : decode cX0_cell 8 = .ok (.iaload, 1) := dk_46 (dk_at dksX0_cell_0 8 rfl rfl)
theorem dX0_cell_9 : decode cX0_cell 9 = .ok (.goto 4, 3) := dk_167 0 4 (dk_at dksX0_cell_0 9 rfl rfl)
theorem dX0_cell_12 : decode cX0_cell 12 = .ok (.iconst 0, 1) := dk_3 (dk_at dksX0_cell_0 12 rfl rfl)
theorem dX0_cell_13 : decode cX0_cell 13 = .ok (.ireturn, 1) := dk_172 (dk_at dksX0_cell_0 13 rfl rfl)
abbrev cX0_same : ByteArray := method_4_code
def yX0_same : MethodName := ⟨RX0, "same", "(LSeedDesk;[I)Z"⟩
def dkwX0_same_2 : List UInt8 := [167, 255, 213, 4, 172]
abbrev dktX0_same_2 : List UInt8 := dkwX0_same_2 ++ []
def dkwX0_same_1 : List UInt8 := [16, 24, 16, 8, 28, 7, 112, 104, 100, 124, 17, 0, 255, 126, 159, 0, 5, 3, 172, 132, 2, 1]
abbrev dktX0_same_1 : List UInt8 := dkwX0_same_1 ++ dktX0_same_2
def dkwX0_same_0 : List UInt8 := [3, 61, 28, 16, 16, 162, 0, 43, 42, 28, 182, 0, 24, 43, 16, 8, 28, 7, 108, 96, 184, 0, 10]
abbrev dktX0_same_0 : List UInt8 := dkwX0_same_0 ++ dktX0_same_1
theorem dksX0_same_0 : cX0_same.data.toList.drop 0 = dktX0_same_0 := by decide +kernel
theorem dksX0_same_1 : cX0_same.data.toList.drop 23 = dktX0_same_1 := dk_seg dksX0_same_0 23 rfl rfl
theorem dksX0_same_2 : cX0_same.data.toList.drop 45 = dktX0_same_2 := dk_seg dksX0_same_1 22 rfl rfl
theorem dX0_same_0 : decode cX0_same 0 = .ok (.iconst 0, 1) := dk_3 (dk_at dksX0_same_0 0 rfl rfl)
theorem dX0_same_1 : decode cX0_same 1 = .ok (.istore_n 2, 1) := dk_61 (dk_at dksX0_same_0 1 rfl rfl)
theorem dX0_same_2 : decode cX0_same 2 = .ok (.iload_n 2, 1) := dk_28 (dk_at dksX0_same_0 2 rfl rfl)
theorem dX0_same_3 : decode cX0_same 3 = .ok (.bipush 16, 2) := dk_16 16 (dk_at dksX0_same_0 3 rfl rfl)
theorem dX0_same_5 : decode cX0_same 5 = .ok (.if_icmp .ge 43, 3) := dk_162 0 43 (dk_at dksX0_same_0 5 rfl rfl)
theorem dX0_same_8 : decode cX0_same 8 = .ok (.aload_n 0, 1) := dk_42 (dk_at dksX0_same_0 8 rfl rfl)
theorem dX0_same_9 : decode cX0_same 9 = .ok (.iload_n 2, 1) := dk_28 (dk_at dksX0_same_0 9 rfl rfl)
theorem dX0_same_10 : decode cX0_same 10 = .ok (.invokevirtual 24, 3) := dk_182 0 24 (dk_at dksX0_same_0 10 rfl rfl)
theorem dX0_same_13 : decode cX0_same 13 = .ok (.aload_n 1, 1) := dk_43 (dk_at dksX0_same_0 13 rfl rfl)
theorem dX0_same_14 : decode cX0_same 14 = .ok (.bipush 8, 2) := dk_16 8 (dk_at dksX0_same_0 14 rfl rfl)
theorem dX0_same_16 : decode cX0_same 16 = .ok (.iload_n 2, 1) := dk_28 (dk_at dksX0_same_0 16 rfl rfl)
theorem dX0_same_17 : decode cX0_same 17 = .ok (.iconst 4, 1) := dk_7 (dk_at dksX0_same_0 17 rfl rfl)
theorem dX0_same_18 : decode cX0_same 18 = .ok (.idiv, 1) := dk_108 (dk_at dksX0_same_0 18 rfl rfl)
theorem dX0_same_19 : decode cX0_same 19 = .ok (.iadd, 1) := dk_96 (dk_at dksX0_same_0 19 rfl rfl)
theorem dX0_same_20 : decode cX0_same 20 = .ok (.invokestatic 10, 3) := dk_184 0 10 (dk_at dksX0_same_0 20 rfl rfl)
theorem dX0_same_23 : decode cX0_same 23 = .ok (.bipush 24, 2) := dk_16 24 (dk_at dksX0_same_1 0 rfl rfl)
theorem dX0_same_25 : decode cX0_same 25 = .ok (.bipush 8, 2) := dk_16 8 (dk_at dksX0_same_1 2 rfl rfl)
theorem dX0_same_27 : decode cX0_same 27 = .ok (.iload_n 2, 1) := dk_28 (dk_at dksX0_same_1 4 rfl rfl)
theorem dX0_same_28 : decode cX0_same 28 = .ok (.iconst 4, 1) := dk_7 (dk_at dksX0_same_1 5 rfl rfl)
theorem dX0_same_29 : decode cX0_same 29 = .ok (.irem, 1) := dk_112 (dk_at dksX0_same_1 6 rfl rfl)
theorem dX0_same_30 : decode cX0_same 30 = .ok (.imul, 1) := dk_104 (dk_at dksX0_same_1 7 rfl rfl)
theorem dX0_same_31 : decode cX0_same 31 = .ok (.isub, 1) := dk_100 (dk_at dksX0_same_1 8 rfl rfl)
theorem dX0_same_32 : decode cX0_same 32 = .ok (.iushr, 1) := dk_124 (dk_at dksX0_same_1 9 rfl rfl)
theorem dX0_same_33 : decode cX0_same 33 = .ok (.sipush 255, 3) := dk_17 0 255 (dk_at dksX0_same_1 10 rfl rfl)
theorem dX0_same_36 : decode cX0_same 36 = .ok (.iand, 1) := dk_126 (dk_at dksX0_same_1 13 rfl rfl)
theorem dX0_same_37 : decode cX0_same 37 = .ok (.if_icmp .eq 5, 3) := dk_159 0 5 (dk_at dksX0_same_1 14 rfl rfl)
theorem dX0_same_40 : decode cX0_same 40 = .ok (.iconst 0, 1) := dk_3 (dk_at dksX0_same_1 17 rfl rfl)
theorem dX0_same_41 : decode cX0_same 41 = .ok (.ireturn, 1) := dk_172 (dk_at dksX0_same_1 18 rfl rfl)
theorem dX0_same_42 : decode cX0_same 42 = .ok (.iinc 2 1, 3) := dk_132 2 1 (dk_at dksX0_same_1 19 rfl rfl)
theorem dX0_same_45 : decode cX0_same 45 = .ok (.goto (-43), 3) := dk_167 255 213 (dk_at dksX0_same_2 0 rfl rfl)
theorem dX0_same_48 : decode cX0_same 48 = .ok (.iconst 1, 1) := dk_4 (dk_at dksX0_same_2 3 rfl rfl)
theorem dX0_same_49 : decode cX0_same 49 = .ok (.ireturn, 1) := dk_172 (dk_at dksX0_same_2 4 rfl rfl)
abbrev cX0_known : ByteArray := method_5_code
def yX0_known : MethodName := ⟨RX0, "known", "()Z"⟩
def dkwX0_known_30 : List UInt8 := [159, 0, 5, 3, 172, 132, 8, 1, 167, 255, 229, 4, 172]
abbrev dktX0_known_30 : List UInt8 := dkwX0_known_30 ++ []
def dkwX0_known_29 : List UInt8 := [58, 7, 3, 54, 8, 21, 8, 16, 16, 162, 0, 26, 25, 6, 21, 8, 182, 0, 24, 25, 7, 21, 8, 46]
abbrev dktX0_known_29 : List UInt8 := dkwX0_known_29 ++ dktX0_known_30
def dkwX0_known_28 : List UInt8 := [16, 12, 17, 0, 244, 79, 89, 16, 13, 16, 15, 79, 89, 16, 14, 16, 81, 79, 89, 16, 15, 16, 34, 79]
abbrev dktX0_known_28 : List UInt8 := dkwX0_known_28 ++ dktX0_known_29
def dkwX0_known_27 : List UInt8 := [16, 8, 16, 93, 79, 89, 16, 9, 16, 11, 79, 89, 16, 10, 16, 54, 79, 89, 16, 11, 16, 24, 79, 89]
abbrev dktX0_known_27 : List UInt8 := dkwX0_known_27 ++ dktX0_known_28
def dkwX0_known_26 : List UInt8 := [17, 0, 209, 79, 89, 8, 17, 0, 129, 79, 89, 16, 6, 16, 60, 79, 89, 16, 7, 17, 0, 185, 79, 89]
abbrev dktX0_known_26 : List UInt8 := dkwX0_known_26 ++ dktX0_known_27
def dkwX0_known_25 : List UInt8 := [17, 0, 155, 79, 89, 4, 17, 0, 155, 79, 89, 5, 16, 123, 79, 89, 6, 17, 0, 252, 79, 89, 7]
abbrev dktX0_known_25 : List UInt8 := dkwX0_known_25 ++ dktX0_known_26
def dkwX0_known_24 : List UInt8 := [18, 48, 18, 49, 18, 50, 18, 51, 182, 0, 20, 25, 6, 3, 182, 0, 32, 16, 16, 188, 10, 89, 3]
abbrev dktX0_known_24 : List UInt8 := dkwX0_known_24 ++ dktX0_known_25
def dkwX0_known_23 : List UInt8 := [18, 44, 18, 45, 18, 46, 18, 47, 182, 0, 16, 25, 6, 4, 3, 3, 3, 3, 182, 0, 16, 25, 6]
abbrev dktX0_known_23 : List UInt8 := dkwX0_known_23 ++ dktX0_known_24
def dkwX0_known_22 : List UInt8 := [46, 159, 0, 5, 3, 172, 132, 6, 1, 167, 255, 229, 187, 0, 7, 89, 183, 0, 9, 58, 6, 25, 6, 3]
abbrev dktX0_known_22 : List UInt8 := dkwX0_known_22 ++ dktX0_known_23
def dkwX0_known_21 : List UInt8 := [79, 58, 5, 3, 54, 6, 21, 6, 16, 16, 162, 0, 26, 25, 4, 21, 6, 182, 0, 24, 25, 5, 21, 6]
abbrev dktX0_known_21 : List UInt8 := dkwX0_known_21 ++ dktX0_known_22
def dkwX0_known_20 : List UInt8 := [89, 16, 12, 16, 44, 79, 89, 16, 13, 17, 0, 212, 79, 89, 16, 14, 16, 13, 79, 89, 16, 15, 16, 74]
abbrev dktX0_known_20 : List UInt8 := dkwX0_known_20 ++ dktX0_known_21
def dkwX0_known_19 : List UInt8 := [16, 8, 16, 34, 79, 89, 16, 9, 16, 107, 79, 89, 16, 10, 17, 0, 195, 79, 89, 16, 11, 16, 20, 79]
abbrev dktX0_known_19 : List UInt8 := dkwX0_known_19 ++ dktX0_known_20
def dkwX0_known_18 : List UInt8 := [17, 0, 188, 79, 89, 8, 17, 0, 174, 79, 89, 16, 6, 16, 112, 79, 89, 16, 7, 16, 109, 79, 89]
abbrev dktX0_known_18 : List UInt8 := dkwX0_known_18 ++ dktX0_known_19
def dkwX0_known_17 : List UInt8 := [3, 17, 0, 238, 79, 89, 4, 16, 84, 79, 89, 5, 17, 0, 209, 79, 89, 6, 16, 62, 79, 89, 7]
abbrev dktX0_known_17 : List UInt8 := dkwX0_known_17 ++ dktX0_known_18
def dkwX0_known_16 : List UInt8 := [25, 4, 18, 40, 18, 41, 18, 42, 18, 43, 182, 0, 20, 25, 4, 3, 182, 0, 32, 16, 16, 188, 10, 89]
abbrev dktX0_known_16 : List UInt8 := dkwX0_known_16 ++ dktX0_known_17
def dkwX0_known_15 : List UInt8 := [25, 4, 3, 18, 36, 18, 37, 18, 38, 18, 39, 182, 0, 16, 25, 4, 4, 3, 3, 3, 3, 182, 0, 16]
abbrev dktX0_known_15 : List UInt8 := dkwX0_known_15 ++ dktX0_known_16
def dkwX0_known_14 : List UInt8 := [45, 21, 4, 46, 159, 0, 5, 3, 172, 132, 4, 1, 167, 255, 231, 187, 0, 7, 89, 183, 0, 9, 58, 4]
abbrev dktX0_known_14 : List UInt8 := dkwX0_known_14 ++ dktX0_known_15
def dkwX0_known_13 : List UInt8 := [79, 89, 16, 15, 16, 67, 79, 78, 3, 54, 4, 21, 4, 16, 16, 162, 0, 24, 44, 21, 4, 182, 0, 24]
abbrev dktX0_known_13 : List UInt8 := dkwX0_known_13 ++ dktX0_known_14
def dkwX0_known_12 : List UInt8 := [16, 11, 17, 0, 151, 79, 89, 16, 12, 17, 0, 228, 79, 89, 16, 13, 16, 55, 79, 89, 16, 14, 16, 15]
abbrev dktX0_known_12 : List UInt8 := dkwX0_known_12 ++ dktX0_known_13
def dkwX0_known_11 : List UInt8 := [16, 80, 79, 89, 16, 8, 17, 0, 132, 79, 89, 16, 9, 16, 72, 79, 89, 16, 10, 16, 53, 79, 89]
abbrev dktX0_known_11 : List UInt8 := dkwX0_known_11 ++ dktX0_known_12
def dkwX0_known_10 : List UInt8 := [6, 17, 0, 242, 79, 89, 7, 4, 79, 89, 8, 16, 64, 79, 89, 16, 6, 16, 80, 79, 89, 16, 7]
abbrev dktX0_known_10 : List UInt8 := dkwX0_known_10 ++ dktX0_known_11
def dkwX0_known_9 : List UInt8 := [182, 0, 32, 16, 16, 188, 10, 89, 3, 17, 0, 193, 79, 89, 4, 16, 31, 79, 89, 5, 16, 34, 79, 89]
abbrev dktX0_known_9 : List UInt8 := dkwX0_known_9 ++ dktX0_known_10
def dkwX0_known_8 : List UInt8 := [182, 0, 16, 44, 4, 3, 3, 3, 3, 182, 0, 16, 44, 3, 3, 3, 3, 182, 0, 20, 44, 3]
abbrev dktX0_known_8 : List UInt8 := dkwX0_known_8 ++ dktX0_known_9
def dkwX0_known_7 : List UInt8 := [132, 2, 1, 167, 255, 234, 187, 0, 7, 89, 183, 0, 9, 77, 44, 3, 18, 28, 18, 29, 18, 30, 18, 31]
abbrev dktX0_known_7 : List UInt8 := dkwX0_known_7 ++ dktX0_known_8
def dkwX0_known_6 : List UInt8 := [79, 76, 3, 61, 28, 16, 16, 162, 0, 22, 42, 28, 182, 0, 24, 43, 28, 46, 159, 0, 5, 3, 172]
abbrev dktX0_known_6 : List UInt8 := dkwX0_known_6 ++ dktX0_known_7
def dkwX0_known_5 : List UInt8 := [89, 16, 12, 16, 109, 79, 89, 16, 13, 16, 52, 79, 89, 16, 14, 16, 108, 79, 89, 16, 15, 17, 0, 219]
abbrev dktX0_known_5 : List UInt8 := dkwX0_known_5 ++ dktX0_known_6
def dkwX0_known_4 : List UInt8 := [16, 25, 79, 89, 16, 9, 17, 0, 175, 79, 89, 16, 10, 17, 0, 241, 79, 89, 16, 11, 17, 0, 204, 79]
abbrev dktX0_known_4 : List UInt8 := dkwX0_known_4 ++ dktX0_known_5
def dkwX0_known_3 : List UInt8 := [7, 8, 79, 89, 8, 16, 78, 79, 89, 16, 6, 16, 22, 79, 89, 16, 7, 16, 104, 79, 89, 16, 8]
abbrev dktX0_known_3 : List UInt8 := dkwX0_known_3 ++ dktX0_known_4
def dkwX0_known_2 : List UInt8 := [89, 3, 16, 94, 79, 89, 4, 17, 0, 186, 79, 89, 5, 17, 0, 198, 79, 89, 6, 17, 0, 224, 79, 89]
abbrev dktX0_known_2 : List UInt8 := dkwX0_known_2 ++ dktX0_known_3
def dkwX0_known_1 : List UInt8 := [182, 0, 16, 42, 18, 28, 18, 29, 18, 30, 18, 31, 182, 0, 20, 42, 3, 182, 0, 32, 16, 16, 188, 10]
abbrev dktX0_known_1 : List UInt8 := dkwX0_known_1 ++ dktX0_known_2
def dkwX0_known_0 : List UInt8 := [187, 0, 7, 89, 183, 0, 9, 75, 42, 3, 3, 3, 3, 3, 182, 0, 16, 42, 4, 3, 3, 3, 3]
abbrev dktX0_known_0 : List UInt8 := dkwX0_known_0 ++ dktX0_known_1
theorem dksX0_known_0 : cX0_known.data.toList.drop 0 = dktX0_known_0 := by decide +kernel
theorem dksX0_known_1 : cX0_known.data.toList.drop 23 = dktX0_known_1 := dk_seg dksX0_known_0 23 rfl rfl
theorem dksX0_known_2 : cX0_known.data.toList.drop 47 = dktX0_known_2 := dk_seg dksX0_known_1 24 rfl rfl
theorem dksX0_known_3 : cX0_known.data.toList.drop 71 = dktX0_known_3 := dk_seg dksX0_known_2 24 rfl rfl
theorem dksX0_known_4 : cX0_known.data.toList.drop 94 = dktX0_known_4 := dk_seg dksX0_known_3 23 rfl rfl
theorem dksX0_known_5 : cX0_known.data.toList.drop 118 = dktX0_known_5 := dk_seg dksX0_known_4 24 rfl rfl
theorem dksX0_known_6 : cX0_known.data.toList.drop 142 = dktX0_known_6 := dk_seg dksX0_known_5 24 rfl rfl
theorem dksX0_known_7 : cX0_known.data.toList.drop 165 = dktX0_known_7 := dk_seg dksX0_known_6 23 rfl rfl
theorem dksX0_known_8 : cX0_known.data.toList.drop 189 = dktX0_known_8 := dk_seg dksX0_known_7 24 rfl rfl
theorem dksX0_known_9 : cX0_known.data.toList.drop 211 = dktX0_known_9 := dk_seg dksX0_known_8 22 rfl rfl
theorem dksX0_known_10 : cX0_known.data.toList.drop 235 = dktX0_known_10 := dk_seg dksX0_known_9 24 rfl rfl
theorem dksX0_known_11 : cX0_known.data.toList.drop 258 = dktX0_known_11 := dk_seg dksX0_known_10 23 rfl rfl
theorem dksX0_known_12 : cX0_known.data.toList.drop 281 = dktX0_known_12 := dk_seg dksX0_known_11 23 rfl rfl
theorem dksX0_known_13 : cX0_known.data.toList.drop 305 = dktX0_known_13 := dk_seg dksX0_known_12 24 rfl rfl
theorem dksX0_known_14 : cX0_known.data.toList.drop 329 = dktX0_known_14 := dk_seg dksX0_known_13 24 rfl rfl
theorem dksX0_known_15 : cX0_known.data.toList.drop 353 = dktX0_known_15 := dk_seg dksX0_known_14 24 rfl rfl
theorem dksX0_known_16 : cX0_known.data.toList.drop 377 = dktX0_known_16 := dk_seg dksX0_known_15 24 rfl rfl
theorem dksX0_known_17 : cX0_known.data.toList.drop 401 = dktX0_known_17 := dk_seg dksX0_known_16 24 rfl rfl
theorem dksX0_known_18 : cX0_known.data.toList.drop 424 = dktX0_known_18 := dk_seg dksX0_known_17 23 rfl rfl
theorem dksX0_known_19 : cX0_known.data.toList.drop 447 = dktX0_known_19 := dk_seg dksX0_known_18 23 rfl rfl
theorem dksX0_known_20 : cX0_known.data.toList.drop 471 = dktX0_known_20 := dk_seg dksX0_known_19 24 rfl rfl
theorem dksX0_known_21 : cX0_known.data.toList.drop 495 = dktX0_known_21 := dk_seg dksX0_known_20 24 rfl rfl
theorem dksX0_known_22 : cX0_known.data.toList.drop 519 = dktX0_known_22 := dk_seg dksX0_known_21 24 rfl rfl
theorem dksX0_known_23 : cX0_known.data.toList.drop 543 = dktX0_known_23 := dk_seg dksX0_known_22 24 rfl rfl
theorem dksX0_known_24 : cX0_known.data.toList.drop 566 = dktX0_known_24 := dk_seg dksX0_known_23 23 rfl rfl
theorem dksX0_known_25 : cX0_known.data.toList.drop 589 = dktX0_known_25 := dk_seg dksX0_known_24 23 rfl rfl
theorem dksX0_known_26 : cX0_known.data.toList.drop 612 = dktX0_known_26 := dk_seg dksX0_known_25 23 rfl rfl
theorem dksX0_known_27 : cX0_known.data.toList.drop 636 = dktX0_known_27 := dk_seg dksX0_known_26 24 rfl rfl
theorem dksX0_known_28 : cX0_known.data.toList.drop 660 = dktX0_known_28 := dk_seg dksX0_known_27 24 rfl rfl
theorem dksX0_known_29 : cX0_known.data.toList.drop 684 = dktX0_known_29 := dk_seg dksX0_known_28 24 rfl rfl
theorem dksX0_known_30 : cX0_known.data.toList.drop 708 = dktX0_known_30 := dk_seg dksX0_known_29 24 rfl rfl
theorem dX0_known_0 : decode cX0_known 0 = .ok (.new 7, 3) := dk_187 0 7 (dk_at dksX0_known_0 0 rfl rfl)
theorem dX0_known_3 : decode cX0_known 3 = .ok (.dup, 1) := dk_89 (dk_at dksX0_known_0 3 rfl rfl)
theorem dX0_known_4 : decode cX0_known 4 = .ok (.invokespecial 9, 3) := dk_183 0 9 (dk_at dksX0_known_0 4 rfl rfl)
theorem dX0_known_7 : decode cX0_known 7 = .ok (.astore_n 0, 1) := dk_75 (dk_at dksX0_known_0 7 rfl rfl)
theorem dX0_known_8 : decode cX0_known 8 = .ok (.aload_n 0, 1) := dk_42 (dk_at dksX0_known_0 8 rfl rfl)
theorem dX0_known_9 : decode cX0_known 9 = .ok (.iconst 0, 1) := dk_3 (dk_at dksX0_known_0 9 rfl rfl)
theorem dX0_known_10 : decode cX0_known 10 = .ok (.iconst 0, 1) := dk_3 (dk_at dksX0_known_0 10 rfl rfl)
theorem dX0_known_11 : decode cX0_known 11 = .ok (.iconst 0, 1) := dk_3 (dk_at dksX0_known_0 11 rfl rfl)
theorem dX0_known_12 : decode cX0_known 12 = .ok (.iconst 0, 1) := dk_3 (dk_at dksX0_known_0 12 rfl rfl)
theorem dX0_known_13 : decode cX0_known 13 = .ok (.iconst 0, 1) := dk_3 (dk_at dksX0_known_0 13 rfl rfl)
theorem dX0_known_14 : decode cX0_known 14 = .ok (.invokevirtual 16, 3) := dk_182 0 16 (dk_at dksX0_known_0 14 rfl rfl)
theorem dX0_known_17 : decode cX0_known 17 = .ok (.aload_n 0, 1) := dk_42 (dk_at dksX0_known_0 17 rfl rfl)
theorem dX0_known_18 : decode cX0_known 18 = .ok (.iconst 1, 1) := dk_4 (dk_at dksX0_known_0 18 rfl rfl)
theorem dX0_known_19 : decode cX0_known 19 = .ok (.iconst 0, 1) := dk_3 (dk_at dksX0_known_0 19 rfl rfl)
theorem dX0_known_20 : decode cX0_known 20 = .ok (.iconst 0, 1) := dk_3 (dk_at dksX0_known_0 20 rfl rfl)
theorem dX0_known_21 : decode cX0_known 21 = .ok (.iconst 0, 1) := dk_3 (dk_at dksX0_known_0 21 rfl rfl)
theorem dX0_known_22 : decode cX0_known 22 = .ok (.iconst 0, 1) := dk_3 (dk_at dksX0_known_0 22 rfl rfl)
theorem dX0_known_23 : decode cX0_known 23 = .ok (.invokevirtual 16, 3) := dk_182 0 16 (dk_at dksX0_known_1 0 rfl rfl)
theorem dX0_known_26 : decode cX0_known 26 = .ok (.aload_n 0, 1) := dk_42 (dk_at dksX0_known_1 3 rfl rfl)
theorem dX0_known_27 : decode cX0_known 27 = .ok (.ldc 28, 2) := dk_18 28 (dk_at dksX0_known_1 4 rfl rfl)
theorem dX0_known_29 : decode cX0_known 29 = .ok (.ldc 29, 2) := dk_18 29 (dk_at dksX0_known_1 6 rfl rfl)
theorem dX0_known_31 : decode cX0_known 31 = .ok (.ldc 30, 2) := dk_18 30 (dk_at dksX0_known_1 8 rfl rfl)
theorem dX0_known_33 : decode cX0_known 33 = .ok (.ldc 31, 2) := dk_18 31 (dk_at dksX0_known_1 10 rfl rfl)
theorem dX0_known_35 : decode cX0_known 35 = .ok (.invokevirtual 20, 3) := dk_182 0 20 (dk_at dksX0_known_1 12 rfl rfl)
theorem dX0_known_38 : decode cX0_known 38 = .ok (.aload_n 0, 1) := dk_42 (dk_at dksX0_known_1 15 rfl rfl)
theorem dX0_known_39 : decode cX0_known 39 = .ok (.iconst 0, 1) := dk_3 (dk_at dksX0_known_1 16 rfl rfl)
theorem dX0_known_40 : decode cX0_known 40 = .ok (.invokevirtual 32, 3) := dk_182 0 32 (dk_at dksX0_known_1 17 rfl rfl)
theorem dX0_known_43 : decode cX0_known 43 = .ok (.bipush 16, 2) := dk_16 16 (dk_at dksX0_known_1 20 rfl rfl)
theorem dX0_known_45 : decode cX0_known 45 = .ok (.newarray .int, 2) := dk_188_10 (dk_at dksX0_known_1 22 rfl rfl)
theorem dX0_known_47 : decode cX0_known 47 = .ok (.dup, 1) := dk_89 (dk_at dksX0_known_2 0 rfl rfl)
theorem dX0_known_48 : decode cX0_known 48 = .ok (.iconst 0, 1) := dk_3 (dk_at dksX0_known_2 1 rfl rfl)
theorem dX0_known_49 : decode cX0_known 49 = .ok (.bipush 94, 2) := dk_16 94 (dk_at dksX0_known_2 2 rfl rfl)
theorem dX0_known_51 : decode cX0_known 51 = .ok (.iastore, 1) := dk_79 (dk_at dksX0_known_2 4 rfl rfl)
theorem dX0_known_52 : decode cX0_known 52 = .ok (.dup, 1) := dk_89 (dk_at dksX0_known_2 5 rfl rfl)
theorem dX0_known_53 : decode cX0_known 53 = .ok (.iconst 1, 1) := dk_4 (dk_at dksX0_known_2 6 rfl rfl)
theorem dX0_known_54 : decode cX0_known 54 = .ok (.sipush 186, 3) := dk_17 0 186 (dk_at dksX0_known_2 7 rfl rfl)
theorem dX0_known_57 : decode cX0_known 57 = .ok (.iastore, 1) := dk_79 (dk_at dksX0_known_2 10 rfl rfl)
theorem dX0_known_58 : decode cX0_known 58 = .ok (.dup, 1) := dk_89 (dk_at dksX0_known_2 11 rfl rfl)
theorem dX0_known_59 : decode cX0_known 59 = .ok (.iconst 2, 1) := dk_5 (dk_at dksX0_known_2 12 rfl rfl)
theorem dX0_known_60 : decode cX0_known 60 = .ok (.sipush 198, 3) := dk_17 0 198 (dk_at dksX0_known_2 13 rfl rfl)
theorem dX0_known_63 : decode cX0_known 63 = .ok (.iastore, 1) := dk_79 (dk_at dksX0_known_2 16 rfl rfl)
theorem dX0_known_64 : decode cX0_known 64 = .ok (.dup, 1) := dk_89 (dk_at dksX0_known_2 17 rfl rfl)
theorem dX0_known_65 : decode cX0_known 65 = .ok (.iconst 3, 1) := dk_6 (dk_at dksX0_known_2 18 rfl rfl)
theorem dX0_known_66 : decode cX0_known 66 = .ok (.sipush 224, 3) := dk_17 0 224 (dk_at dksX0_known_2 19 rfl rfl)
theorem dX0_known_69 : decode cX0_known 69 = .ok (.iastore, 1) := dk_79 (dk_at dksX0_known_2 22 rfl rfl)
theorem dX0_known_70 : decode cX0_known 70 = .ok (.dup, 1) := dk_89 (dk_at dksX0_known_2 23 rfl rfl)
theorem dX0_known_71 : decode cX0_known 71 = .ok (.iconst 4, 1) := dk_7 (dk_at dksX0_known_3 0 rfl rfl)
theorem dX0_known_72 : decode cX0_known 72 = .ok (.iconst 5, 1) := dk_8 (dk_at dksX0_known_3 1 rfl rfl)
theorem dX0_known_73 : decode cX0_known 73 = .ok (.iastore, 1) := dk_79 (dk_at dksX0_known_3 2 rfl rfl)
theorem dX0_known_74 : decode cX0_known 74 = .ok (.dup, 1) := dk_89 (dk_at dksX0_known_3 3 rfl rfl)
theorem dX0_known_75 : decode cX0_known 75 = .ok (.iconst 5, 1) := dk_8 (dk_at dksX0_known_3 4 rfl rfl)
theorem dX0_known_76 : decode cX0_known 76 = .ok (.bipush 78, 2) := dk_16 78 (dk_at dksX0_known_3 5 rfl rfl)
theorem dX0_known_78 : decode cX0_known 78 = .ok (.iastore, 1) := dk_79 (dk_at dksX0_known_3 7 rfl rfl)
theorem dX0_known_79 : decode cX0_known 79 = .ok (.dup, 1) := dk_89 (dk_at dksX0_known_3 8 rfl rfl)
theorem dX0_known_80 : decode cX0_known 80 = .ok (.bipush 6, 2) := dk_16 6 (dk_at dksX0_known_3 9 rfl rfl)
theorem dX0_known_82 : decode cX0_known 82 = .ok (.bipush 22, 2) := dk_16 22 (dk_at dksX0_known_3 11 rfl rfl)
theorem dX0_known_84 : decode cX0_known 84 = .ok (.iastore, 1) := dk_79 (dk_at dksX0_known_3 13 rfl rfl)
theorem dX0_known_85 : decode cX0_known 85 = .ok (.dup, 1) := dk_89 (dk_at dksX0_known_3 14 rfl rfl)
theorem dX0_known_86 : decode cX0_known 86 = .ok (.bipush 7, 2) := dk_16 7 (dk_at dksX0_known_3 15 rfl rfl)
theorem dX0_known_88 : decode cX0_known 88 = .ok (.bipush 104, 2) := dk_16 104 (dk_at dksX0_known_3 17 rfl rfl)
theorem dX0_known_90 : decode cX0_known 90 = .ok (.iastore, 1) := dk_79 (dk_at dksX0_known_3 19 rfl rfl)
theorem dX0_known_91 : decode cX0_known 91 = .ok (.dup, 1) := dk_89 (dk_at dksX0_known_3 20 rfl rfl)
theorem dX0_known_92 : decode cX0_known 92 = .ok (.bipush 8, 2) := dk_16 8 (dk_at dksX0_known_3 21 rfl rfl)
theorem dX0_known_94 : decode cX0_known 94 = .ok (.bipush 25, 2) := dk_16 25 (dk_at dksX0_known_4 0 rfl rfl)
theorem dX0_known_96 : decode cX0_known 96 = .ok (.iastore, 1) := dk_79 (dk_at dksX0_known_4 2 rfl rfl)
theorem dX0_known_97 : decode cX0_known 97 = .ok (.dup, 1) := dk_89 (dk_at dksX0_known_4 3 rfl rfl)
theorem dX0_known_98 : decode cX0_known 98 = .ok (.bipush 9, 2) := dk_16 9 (dk_at dksX0_known_4 4 rfl rfl)
theorem dX0_known_100 : decode cX0_known 100 = .ok (.sipush 175, 3) := dk_17 0 175 (dk_at dksX0_known_4 6 rfl rfl)
theorem dX0_known_103 : decode cX0_known 103 = .ok (.iastore, 1) := dk_79 (dk_at dksX0_known_4 9 rfl rfl)
theorem dX0_known_104 : decode cX0_known 104 = .ok (.dup, 1) := dk_89 (dk_at dksX0_known_4 10 rfl rfl)
theorem dX0_known_105 : decode cX0_known 105 = .ok (.bipush 10, 2) := dk_16 10 (dk_at dksX0_known_4 11 rfl rfl)
theorem dX0_known_107 : decode cX0_known 107 = .ok (.sipush 241, 3) := dk_17 0 241 (dk_at dksX0_known_4 13 rfl rfl)
theorem dX0_known_110 : decode cX0_known 110 = .ok (.iastore, 1) := dk_79 (dk_at dksX0_known_4 16 rfl rfl)
theorem dX0_known_111 : decode cX0_known 111 = .ok (.dup, 1) := dk_89 (dk_at dksX0_known_4 17 rfl rfl)
theorem dX0_known_112 : decode cX0_known 112 = .ok (.bipush 11, 2) := dk_16 11 (dk_at dksX0_known_4 18 rfl rfl)
theorem dX0_known_114 : decode cX0_known 114 = .ok (.sipush 204, 3) := dk_17 0 204 (dk_at dksX0_known_4 20 rfl rfl)
theorem dX0_known_117 : decode cX0_known 117 = .ok (.iastore, 1) := dk_79 (dk_at dksX0_known_4 23 rfl rfl)
theorem dX0_known_118 : decode cX0_known 118 = .ok (.dup, 1) := dk_89 (dk_at dksX0_known_5 0 rfl rfl)
theorem dX0_known_119 : decode cX0_known 119 = .ok (.bipush 12, 2) := dk_16 12 (dk_at dksX0_known_5 1 rfl rfl)
theorem dX0_known_121 : decode cX0_known 121 = .ok (.bipush 109, 2) := dk_16 109 (dk_at dksX0_known_5 3 rfl rfl)
theorem dX0_known_123 : decode cX0_known 123 = .ok (.iastore, 1) := dk_79 (dk_at dksX0_known_5 5 rfl rfl)
theorem dX0_known_124 : decode cX0_known 124 = .ok (.dup, 1) := dk_89 (dk_at dksX0_known_5 6 rfl rfl)
theorem dX0_known_125 : decode cX0_known 125 = .ok (.bipush 13, 2) := dk_16 13 (dk_at dksX0_known_5 7 rfl rfl)
theorem dX0_known_127 : decode cX0_known 127 = .ok (.bipush 52, 2) := dk_16 52 (dk_at dksX0_known_5 9 rfl rfl)
theorem dX0_known_129 : decode cX0_known 129 = .ok (.iastore, 1) := dk_79 (dk_at dksX0_known_5 11 rfl rfl)
theorem dX0_known_130 : decode cX0_known 130 = .ok (.dup, 1) := dk_89 (dk_at dksX0_known_5 12 rfl rfl)
theorem dX0_known_131 : decode cX0_known 131 = .ok (.bipush 14, 2) := dk_16 14 (dk_at dksX0_known_5 13 rfl rfl)
theorem dX0_known_133 : decode cX0_known 133 = .ok (.bipush 108, 2) := dk_16 108 (dk_at dksX0_known_5 15 rfl rfl)
theorem dX0_known_135 : decode cX0_known 135 = .ok (.iastore, 1) := dk_79 (dk_at dksX0_known_5 17 rfl rfl)
theorem dX0_known_136 : decode cX0_known 136 = .ok (.dup, 1) := dk_89 (dk_at dksX0_known_5 18 rfl rfl)
theorem dX0_known_137 : decode cX0_known 137 = .ok (.bipush 15, 2) := dk_16 15 (dk_at dksX0_known_5 19 rfl rfl)
theorem dX0_known_139 : decode cX0_known 139 = .ok (.sipush 219, 3) := dk_17 0 219 (dk_at dksX0_known_5 21 rfl rfl)
theorem dX0_known_142 : decode cX0_known 142 = .ok (.iastore, 1) := dk_79 (dk_at dksX0_known_6 0 rfl rfl)
theorem dX0_known_143 : decode cX0_known 143 = .ok (.astore_n 1, 1) := dk_76 (dk_at dksX0_known_6 1 rfl rfl)
theorem dX0_known_144 : decode cX0_known 144 = .ok (.iconst 0, 1) := dk_3 (dk_at dksX0_known_6 2 rfl rfl)
theorem dX0_known_145 : decode cX0_known 145 = .ok (.istore_n 2, 1) := dk_61 (dk_at dksX0_known_6 3 rfl rfl)
theorem dX0_known_146 : decode cX0_known 146 = .ok (.iload_n 2, 1) := dk_28 (dk_at dksX0_known_6 4 rfl rfl)
theorem dX0_known_147 : decode cX0_known 147 = .ok (.bipush 16, 2) := dk_16 16 (dk_at dksX0_known_6 5 rfl rfl)
theorem dX0_known_149 : decode cX0_known 149 = .ok (.if_icmp .ge 22, 3) := dk_162 0 22 (dk_at dksX0_known_6 7 rfl rfl)
theorem dX0_known_152 : decode cX0_known 152 = .ok (.aload_n 0, 1) := dk_42 (dk_at dksX0_known_6 10 rfl rfl)
theorem dX0_known_153 : decode cX0_known 153 = .ok (.iload_n 2, 1) := dk_28 (dk_at dksX0_known_6 11 rfl rfl)
theorem dX0_known_154 : decode cX0_known 154 = .ok (.invokevirtual 24, 3) := dk_182 0 24 (dk_at dksX0_known_6 12 rfl rfl)
theorem dX0_known_157 : decode cX0_known 157 = .ok (.aload_n 1, 1) := dk_43 (dk_at dksX0_known_6 15 rfl rfl)
theorem dX0_known_158 : decode cX0_known 158 = .ok (.iload_n 2, 1) := dk_28 (dk_at dksX0_known_6 16 rfl rfl)
theorem dX0_known_159 : decode cX0_known 159 = .ok (.iaload, 1) := dk_46 (dk_at dksX0_known_6 17 rfl rfl)
theorem dX0_known_160 : decode cX0_known 160 = .ok (.if_icmp .eq 5, 3) := dk_159 0 5 (dk_at dksX0_known_6 18 rfl rfl)
theorem dX0_known_163 : decode cX0_known 163 = .ok (.iconst 0, 1) := dk_3 (dk_at dksX0_known_6 21 rfl rfl)
theorem dX0_known_164 : decode cX0_known 164 = .ok (.ireturn, 1) := dk_172 (dk_at dksX0_known_6 22 rfl rfl)
theorem dX0_known_165 : decode cX0_known 165 = .ok (.iinc 2 1, 3) := dk_132 2 1 (dk_at dksX0_known_7 0 rfl rfl)
theorem dX0_known_168 : decode cX0_known 168 = .ok (.goto (-22), 3) := dk_167 255 234 (dk_at dksX0_known_7 3 rfl rfl)
theorem dX0_known_171 : decode cX0_known 171 = .ok (.new 7, 3) := dk_187 0 7 (dk_at dksX0_known_7 6 rfl rfl)
theorem dX0_known_174 : decode cX0_known 174 = .ok (.dup, 1) := dk_89 (dk_at dksX0_known_7 9 rfl rfl)
theorem dX0_known_175 : decode cX0_known 175 = .ok (.invokespecial 9, 3) := dk_183 0 9 (dk_at dksX0_known_7 10 rfl rfl)
theorem dX0_known_178 : decode cX0_known 178 = .ok (.astore_n 2, 1) := dk_77 (dk_at dksX0_known_7 13 rfl rfl)
theorem dX0_known_179 : decode cX0_known 179 = .ok (.aload_n 2, 1) := dk_44 (dk_at dksX0_known_7 14 rfl rfl)
theorem dX0_known_180 : decode cX0_known 180 = .ok (.iconst 0, 1) := dk_3 (dk_at dksX0_known_7 15 rfl rfl)
theorem dX0_known_181 : decode cX0_known 181 = .ok (.ldc 28, 2) := dk_18 28 (dk_at dksX0_known_7 16 rfl rfl)
theorem dX0_known_183 : decode cX0_known 183 = .ok (.ldc 29, 2) := dk_18 29 (dk_at dksX0_known_7 18 rfl rfl)
theorem dX0_known_185 : decode cX0_known 185 = .ok (.ldc 30, 2) := dk_18 30 (dk_at dksX0_known_7 20 rfl rfl)
theorem dX0_known_187 : decode cX0_known 187 = .ok (.ldc 31, 2) := dk_18 31 (dk_at dksX0_known_7 22 rfl rfl)
theorem dX0_known_189 : decode cX0_known 189 = .ok (.invokevirtual 16, 3) := dk_182 0 16 (dk_at dksX0_known_8 0 rfl rfl)
theorem dX0_known_192 : decode cX0_known 192 = .ok (.aload_n 2, 1) := dk_44 (dk_at dksX0_known_8 3 rfl rfl)
theorem dX0_known_193 : decode cX0_known 193 = .ok (.iconst 1, 1) := dk_4 (dk_at dksX0_known_8 4 rfl rfl)
theorem dX0_known_194 : decode cX0_known 194 = .ok (.iconst 0, 1) := dk_3 (dk_at dksX0_known_8 5 rfl rfl)
theorem dX0_known_195 : decode cX0_known 195 = .ok (.iconst 0, 1) := dk_3 (dk_at dksX0_known_8 6 rfl rfl)
theorem dX0_known_196 : decode cX0_known 196 = .ok (.iconst 0, 1) := dk_3 (dk_at dksX0_known_8 7 rfl rfl)
theorem dX0_known_197 : decode cX0_known 197 = .ok (.iconst 0, 1) := dk_3 (dk_at dksX0_known_8 8 rfl rfl)
theorem dX0_known_198 : decode cX0_known 198 = .ok (.invokevirtual 16, 3) := dk_182 0 16 (dk_at dksX0_known_8 9 rfl rfl)
theorem dX0_known_201 : decode cX0_known 201 = .ok (.aload_n 2, 1) := dk_44 (dk_at dksX0_known_8 12 rfl rfl)
theorem dX0_known_202 : decode cX0_known 202 = .ok (.iconst 0, 1) := dk_3 (dk_at dksX0_known_8 13 rfl rfl)
theorem dX0_known_203 : decode cX0_known 203 = .ok (.iconst 0, 1) := dk_3 (dk_at dksX0_known_8 14 rfl rfl)
theorem dX0_known_204 : decode cX0_known 204 = .ok (.iconst 0, 1) := dk_3 (dk_at dksX0_known_8 15 rfl rfl)
theorem dX0_known_205 : decode cX0_known 205 = .ok (.iconst 0, 1) := dk_3 (dk_at dksX0_known_8 16 rfl rfl)
theorem dX0_known_206 : decode cX0_known 206 = .ok (.invokevirtual 20, 3) := dk_182 0 20 (dk_at dksX0_known_8 17 rfl rfl)
theorem dX0_known_209 : decode cX0_known 209 = .ok (.aload_n 2, 1) := dk_44 (dk_at dksX0_known_8 20 rfl rfl)
theorem dX0_known_210 : decode cX0_known 210 = .ok (.iconst 0, 1) := dk_3 (dk_at dksX0_known_8 21 rfl rfl)
theorem dX0_known_211 : decode cX0_known 211 = .ok (.invokevirtual 32, 3) := dk_182 0 32 (dk_at dksX0_known_9 0 rfl rfl)
theorem dX0_known_214 : decode cX0_known 214 = .ok (.bipush 16, 2) := dk_16 16 (dk_at dksX0_known_9 3 rfl rfl)
theorem dX0_known_216 : decode cX0_known 216 = .ok (.newarray .int, 2) := dk_188_10 (dk_at dksX0_known_9 5 rfl rfl)
theorem dX0_known_218 : decode cX0_known 218 = .ok (.dup, 1) := dk_89 (dk_at dksX0_known_9 7 rfl rfl)
theorem dX0_known_219 : decode cX0_known 219 = .ok (.iconst 0, 1) := dk_3 (dk_at dksX0_known_9 8 rfl rfl)
theorem dX0_known_220 : decode cX0_known 220 = .ok (.sipush 193, 3) := dk_17 0 193 (dk_at dksX0_known_9 9 rfl rfl)
theorem dX0_known_223 : decode cX0_known 223 = .ok (.iastore, 1) := dk_79 (dk_at dksX0_known_9 12 rfl rfl)
theorem dX0_known_224 : decode cX0_known 224 = .ok (.dup, 1) := dk_89 (dk_at dksX0_known_9 13 rfl rfl)
theorem dX0_known_225 : decode cX0_known 225 = .ok (.iconst 1, 1) := dk_4 (dk_at dksX0_known_9 14 rfl rfl)
theorem dX0_known_226 : decode cX0_known 226 = .ok (.bipush 31, 2) := dk_16 31 (dk_at dksX0_known_9 15 rfl rfl)
theorem dX0_known_228 : decode cX0_known 228 = .ok (.iastore, 1) := dk_79 (dk_at dksX0_known_9 17 rfl rfl)
theorem dX0_known_229 : decode cX0_known 229 = .ok (.dup, 1) := dk_89 (dk_at dksX0_known_9 18 rfl rfl)
theorem dX0_known_230 : decode cX0_known 230 = .ok (.iconst 2, 1) := dk_5 (dk_at dksX0_known_9 19 rfl rfl)
theorem dX0_known_231 : decode cX0_known 231 = .ok (.bipush 34, 2) := dk_16 34 (dk_at dksX0_known_9 20 rfl rfl)
theorem dX0_known_233 : decode cX0_known 233 = .ok (.iastore, 1) := dk_79 (dk_at dksX0_known_9 22 rfl rfl)
theorem dX0_known_234 : decode cX0_known 234 = .ok (.dup, 1) := dk_89 (dk_at dksX0_known_9 23 rfl rfl)
theorem dX0_known_235 : decode cX0_known 235 = .ok (.iconst 3, 1) := dk_6 (dk_at dksX0_known_10 0 rfl rfl)
theorem dX0_known_236 : decode cX0_known 236 = .ok (.sipush 242, 3) := dk_17 0 242 (dk_at dksX0_known_10 1 rfl rfl)
theorem dX0_known_239 : decode cX0_known 239 = .ok (.iastore, 1) := dk_79 (dk_at dksX0_known_10 4 rfl rfl)
theorem dX0_known_240 : decode cX0_known 240 = .ok (.dup, 1) := dk_89 (dk_at dksX0_known_10 5 rfl rfl)
theorem dX0_known_241 : decode cX0_known 241 = .ok (.iconst 4, 1) := dk_7 (dk_at dksX0_known_10 6 rfl rfl)
theorem dX0_known_242 : decode cX0_known 242 = .ok (.iconst 1, 1) := dk_4 (dk_at dksX0_known_10 7 rfl rfl)
theorem dX0_known_243 : decode cX0_known 243 = .ok (.iastore, 1) := dk_79 (dk_at dksX0_known_10 8 rfl rfl)
theorem dX0_known_244 : decode cX0_known 244 = .ok (.dup, 1) := dk_89 (dk_at dksX0_known_10 9 rfl rfl)
theorem dX0_known_245 : decode cX0_known 245 = .ok (.iconst 5, 1) := dk_8 (dk_at dksX0_known_10 10 rfl rfl)
theorem dX0_known_246 : decode cX0_known 246 = .ok (.bipush 64, 2) := dk_16 64 (dk_at dksX0_known_10 11 rfl rfl)
theorem dX0_known_248 : decode cX0_known 248 = .ok (.iastore, 1) := dk_79 (dk_at dksX0_known_10 13 rfl rfl)
theorem dX0_known_249 : decode cX0_known 249 = .ok (.dup, 1) := dk_89 (dk_at dksX0_known_10 14 rfl rfl)
theorem dX0_known_250 : decode cX0_known 250 = .ok (.bipush 6, 2) := dk_16 6 (dk_at dksX0_known_10 15 rfl rfl)
theorem dX0_known_252 : decode cX0_known 252 = .ok (.bipush 80, 2) := dk_16 80 (dk_at dksX0_known_10 17 rfl rfl)
theorem dX0_known_254 : decode cX0_known 254 = .ok (.iastore, 1) := dk_79 (dk_at dksX0_known_10 19 rfl rfl)
theorem dX0_known_255 : decode cX0_known 255 = .ok (.dup, 1) := dk_89 (dk_at dksX0_known_10 20 rfl rfl)
theorem dX0_known_256 : decode cX0_known 256 = .ok (.bipush 7, 2) := dk_16 7 (dk_at dksX0_known_10 21 rfl rfl)
theorem dX0_known_258 : decode cX0_known 258 = .ok (.bipush 80, 2) := dk_16 80 (dk_at dksX0_known_11 0 rfl rfl)
theorem dX0_known_260 : decode cX0_known 260 = .ok (.iastore, 1) := dk_79 (dk_at dksX0_known_11 2 rfl rfl)
theorem dX0_known_261 : decode cX0_known 261 = .ok (.dup, 1) := dk_89 (dk_at dksX0_known_11 3 rfl rfl)
theorem dX0_known_262 : decode cX0_known 262 = .ok (.bipush 8, 2) := dk_16 8 (dk_at dksX0_known_11 4 rfl rfl)
theorem dX0_known_264 : decode cX0_known 264 = .ok (.sipush 132, 3) := dk_17 0 132 (dk_at dksX0_known_11 6 rfl rfl)
theorem dX0_known_267 : decode cX0_known 267 = .ok (.iastore, 1) := dk_79 (dk_at dksX0_known_11 9 rfl rfl)
theorem dX0_known_268 : decode cX0_known 268 = .ok (.dup, 1) := dk_89 (dk_at dksX0_known_11 10 rfl rfl)
theorem dX0_known_269 : decode cX0_known 269 = .ok (.bipush 9, 2) := dk_16 9 (dk_at dksX0_known_11 11 rfl rfl)
theorem dX0_known_271 : decode cX0_known 271 = .ok (.bipush 72, 2) := dk_16 72 (dk_at dksX0_known_11 13 rfl rfl)
theorem dX0_known_273 : decode cX0_known 273 = .ok (.iastore, 1) := dk_79 (dk_at dksX0_known_11 15 rfl rfl)
theorem dX0_known_274 : decode cX0_known 274 = .ok (.dup, 1) := dk_89 (dk_at dksX0_known_11 16 rfl rfl)
theorem dX0_known_275 : decode cX0_known 275 = .ok (.bipush 10, 2) := dk_16 10 (dk_at dksX0_known_11 17 rfl rfl)
theorem dX0_known_277 : decode cX0_known 277 = .ok (.bipush 53, 2) := dk_16 53 (dk_at dksX0_known_11 19 rfl rfl)
theorem dX0_known_279 : decode cX0_known 279 = .ok (.iastore, 1) := dk_79 (dk_at dksX0_known_11 21 rfl rfl)
theorem dX0_known_280 : decode cX0_known 280 = .ok (.dup, 1) := dk_89 (dk_at dksX0_known_11 22 rfl rfl)
theorem dX0_known_281 : decode cX0_known 281 = .ok (.bipush 11, 2) := dk_16 11 (dk_at dksX0_known_12 0 rfl rfl)
theorem dX0_known_283 : decode cX0_known 283 = .ok (.sipush 151, 3) := dk_17 0 151 (dk_at dksX0_known_12 2 rfl rfl)
theorem dX0_known_286 : decode cX0_known 286 = .ok (.iastore, 1) := dk_79 (dk_at dksX0_known_12 5 rfl rfl)
theorem dX0_known_287 : decode cX0_known 287 = .ok (.dup, 1) := dk_89 (dk_at dksX0_known_12 6 rfl rfl)
theorem dX0_known_288 : decode cX0_known 288 = .ok (.bipush 12, 2) := dk_16 12 (dk_at dksX0_known_12 7 rfl rfl)
theorem dX0_known_290 : decode cX0_known 290 = .ok (.sipush 228, 3) := dk_17 0 228 (dk_at dksX0_known_12 9 rfl rfl)
theorem dX0_known_293 : decode cX0_known 293 = .ok (.iastore, 1) := dk_79 (dk_at dksX0_known_12 12 rfl rfl)
theorem dX0_known_294 : decode cX0_known 294 = .ok (.dup, 1) := dk_89 (dk_at dksX0_known_12 13 rfl rfl)
theorem dX0_known_295 : decode cX0_known 295 = .ok (.bipush 13, 2) := dk_16 13 (dk_at dksX0_known_12 14 rfl rfl)
theorem dX0_known_297 : decode cX0_known 297 = .ok (.bipush 55, 2) := dk_16 55 (dk_at dksX0_known_12 16 rfl rfl)
theorem dX0_known_299 : decode cX0_known 299 = .ok (.iastore, 1) := dk_79 (dk_at dksX0_known_12 18 rfl rfl)
theorem dX0_known_300 : decode cX0_known 300 = .ok (.dup, 1) := dk_89 (dk_at dksX0_known_12 19 rfl rfl)
theorem dX0_known_301 : decode cX0_known 301 = .ok (.bipush 14, 2) := dk_16 14 (dk_at dksX0_known_12 20 rfl rfl)
theorem dX0_known_303 : decode cX0_known 303 = .ok (.bipush 15, 2) := dk_16 15 (dk_at dksX0_known_12 22 rfl rfl)
theorem dX0_known_305 : decode cX0_known 305 = .ok (.iastore, 1) := dk_79 (dk_at dksX0_known_13 0 rfl rfl)
theorem dX0_known_306 : decode cX0_known 306 = .ok (.dup, 1) := dk_89 (dk_at dksX0_known_13 1 rfl rfl)
theorem dX0_known_307 : decode cX0_known 307 = .ok (.bipush 15, 2) := dk_16 15 (dk_at dksX0_known_13 2 rfl rfl)
theorem dX0_known_309 : decode cX0_known 309 = .ok (.bipush 67, 2) := dk_16 67 (dk_at dksX0_known_13 4 rfl rfl)
theorem dX0_known_311 : decode cX0_known 311 = .ok (.iastore, 1) := dk_79 (dk_at dksX0_known_13 6 rfl rfl)
theorem dX0_known_312 : decode cX0_known 312 = .ok (.astore_n 3, 1) := dk_78 (dk_at dksX0_known_13 7 rfl rfl)
theorem dX0_known_313 : decode cX0_known 313 = .ok (.iconst 0, 1) := dk_3 (dk_at dksX0_known_13 8 rfl rfl)
theorem dX0_known_314 : decode cX0_known 314 = .ok (.istore 4, 2) := dk_54 4 (dk_at dksX0_known_13 9 rfl rfl)
theorem dX0_known_316 : decode cX0_known 316 = .ok (.iload 4, 2) := dk_21 4 (dk_at dksX0_known_13 11 rfl rfl)
theorem dX0_known_318 : decode cX0_known 318 = .ok (.bipush 16, 2) := dk_16 16 (dk_at dksX0_known_13 13 rfl rfl)
theorem dX0_known_320 : decode cX0_known 320 = .ok (.if_icmp .ge 24, 3) := dk_162 0 24 (dk_at dksX0_known_13 15 rfl rfl)
theorem dX0_known_323 : decode cX0_known 323 = .ok (.aload_n 2, 1) := dk_44 (dk_at dksX0_known_13 18 rfl rfl)
theorem dX0_known_324 : decode cX0_known 324 = .ok (.iload 4, 2) := dk_21 4 (dk_at dksX0_known_13 19 rfl rfl)
theorem dX0_known_326 : decode cX0_known 326 = .ok (.invokevirtual 24, 3) := dk_182 0 24 (dk_at dksX0_known_13 21 rfl rfl)
theorem dX0_known_329 : decode cX0_known 329 = .ok (.aload_n 3, 1) := dk_45 (dk_at dksX0_known_14 0 rfl rfl)
theorem dX0_known_330 : decode cX0_known 330 = .ok (.iload 4, 2) := dk_21 4 (dk_at dksX0_known_14 1 rfl rfl)
theorem dX0_known_332 : decode cX0_known 332 = .ok (.iaload, 1) := dk_46 (dk_at dksX0_known_14 3 rfl rfl)
theorem dX0_known_333 : decode cX0_known 333 = .ok (.if_icmp .eq 5, 3) := dk_159 0 5 (dk_at dksX0_known_14 4 rfl rfl)
theorem dX0_known_336 : decode cX0_known 336 = .ok (.iconst 0, 1) := dk_3 (dk_at dksX0_known_14 7 rfl rfl)
theorem dX0_known_337 : decode cX0_known 337 = .ok (.ireturn, 1) := dk_172 (dk_at dksX0_known_14 8 rfl rfl)
theorem dX0_known_338 : decode cX0_known 338 = .ok (.iinc 4 1, 3) := dk_132 4 1 (dk_at dksX0_known_14 9 rfl rfl)
theorem dX0_known_341 : decode cX0_known 341 = .ok (.goto (-25), 3) := dk_167 255 231 (dk_at dksX0_known_14 12 rfl rfl)
theorem dX0_known_344 : decode cX0_known 344 = .ok (.new 7, 3) := dk_187 0 7 (dk_at dksX0_known_14 15 rfl rfl)
theorem dX0_known_347 : decode cX0_known 347 = .ok (.dup, 1) := dk_89 (dk_at dksX0_known_14 18 rfl rfl)
theorem dX0_known_348 : decode cX0_known 348 = .ok (.invokespecial 9, 3) := dk_183 0 9 (dk_at dksX0_known_14 19 rfl rfl)
theorem dX0_known_351 : decode cX0_known 351 = .ok (.astore 4, 2) := dk_58 4 (dk_at dksX0_known_14 22 rfl rfl)
theorem dX0_known_353 : decode cX0_known 353 = .ok (.aload 4, 2) := dk_25 4 (dk_at dksX0_known_15 0 rfl rfl)
theorem dX0_known_355 : decode cX0_known 355 = .ok (.iconst 0, 1) := dk_3 (dk_at dksX0_known_15 2 rfl rfl)
theorem dX0_known_356 : decode cX0_known 356 = .ok (.ldc 36, 2) := dk_18 36 (dk_at dksX0_known_15 3 rfl rfl)
theorem dX0_known_358 : decode cX0_known 358 = .ok (.ldc 37, 2) := dk_18 37 (dk_at dksX0_known_15 5 rfl rfl)
theorem dX0_known_360 : decode cX0_known 360 = .ok (.ldc 38, 2) := dk_18 38 (dk_at dksX0_known_15 7 rfl rfl)
theorem dX0_known_362 : decode cX0_known 362 = .ok (.ldc 39, 2) := dk_18 39 (dk_at dksX0_known_15 9 rfl rfl)
theorem dX0_known_364 : decode cX0_known 364 = .ok (.invokevirtual 16, 3) := dk_182 0 16 (dk_at dksX0_known_15 11 rfl rfl)
theorem dX0_known_367 : decode cX0_known 367 = .ok (.aload 4, 2) := dk_25 4 (dk_at dksX0_known_15 14 rfl rfl)
theorem dX0_known_369 : decode cX0_known 369 = .ok (.iconst 1, 1) := dk_4 (dk_at dksX0_known_15 16 rfl rfl)
theorem dX0_known_370 : decode cX0_known 370 = .ok (.iconst 0, 1) := dk_3 (dk_at dksX0_known_15 17 rfl rfl)
theorem dX0_known_371 : decode cX0_known 371 = .ok (.iconst 0, 1) := dk_3 (dk_at dksX0_known_15 18 rfl rfl)
theorem dX0_known_372 : decode cX0_known 372 = .ok (.iconst 0, 1) := dk_3 (dk_at dksX0_known_15 19 rfl rfl)
theorem dX0_known_373 : decode cX0_known 373 = .ok (.iconst 0, 1) := dk_3 (dk_at dksX0_known_15 20 rfl rfl)
theorem dX0_known_374 : decode cX0_known 374 = .ok (.invokevirtual 16, 3) := dk_182 0 16 (dk_at dksX0_known_15 21 rfl rfl)
theorem dX0_known_377 : decode cX0_known 377 = .ok (.aload 4, 2) := dk_25 4 (dk_at dksX0_known_16 0 rfl rfl)
theorem dX0_known_379 : decode cX0_known 379 = .ok (.ldc 40, 2) := dk_18 40 (dk_at dksX0_known_16 2 rfl rfl)
theorem dX0_known_381 : decode cX0_known 381 = .ok (.ldc 41, 2) := dk_18 41 (dk_at dksX0_known_16 4 rfl rfl)
theorem dX0_known_383 : decode cX0_known 383 = .ok (.ldc 42, 2) := dk_18 42 (dk_at dksX0_known_16 6 rfl rfl)
theorem dX0_known_385 : decode cX0_known 385 = .ok (.ldc 43, 2) := dk_18 43 (dk_at dksX0_known_16 8 rfl rfl)
theorem dX0_known_387 : decode cX0_known 387 = .ok (.invokevirtual 20, 3) := dk_182 0 20 (dk_at dksX0_known_16 10 rfl rfl)
theorem dX0_known_390 : decode cX0_known 390 = .ok (.aload 4, 2) := dk_25 4 (dk_at dksX0_known_16 13 rfl rfl)
theorem dX0_known_392 : decode cX0_known 392 = .ok (.iconst 0, 1) := dk_3 (dk_at dksX0_known_16 15 rfl rfl)
theorem dX0_known_393 : decode cX0_known 393 = .ok (.invokevirtual 32, 3) := dk_182 0 32 (dk_at dksX0_known_16 16 rfl rfl)
theorem dX0_known_396 : decode cX0_known 396 = .ok (.bipush 16, 2) := dk_16 16 (dk_at dksX0_known_16 19 rfl rfl)
theorem dX0_known_398 : decode cX0_known 398 = .ok (.newarray .int, 2) := dk_188_10 (dk_at dksX0_known_16 21 rfl rfl)
theorem dX0_known_400 : decode cX0_known 400 = .ok (.dup, 1) := dk_89 (dk_at dksX0_known_16 23 rfl rfl)
theorem dX0_known_401 : decode cX0_known 401 = .ok (.iconst 0, 1) := dk_3 (dk_at dksX0_known_17 0 rfl rfl)
theorem dX0_known_402 : decode cX0_known 402 = .ok (.sipush 238, 3) := dk_17 0 238 (dk_at dksX0_known_17 1 rfl rfl)
theorem dX0_known_405 : decode cX0_known 405 = .ok (.iastore, 1) := dk_79 (dk_at dksX0_known_17 4 rfl rfl)
theorem dX0_known_406 : decode cX0_known 406 = .ok (.dup, 1) := dk_89 (dk_at dksX0_known_17 5 rfl rfl)
theorem dX0_known_407 : decode cX0_known 407 = .ok (.iconst 1, 1) := dk_4 (dk_at dksX0_known_17 6 rfl rfl)
theorem dX0_known_408 : decode cX0_known 408 = .ok (.bipush 84, 2) := dk_16 84 (dk_at dksX0_known_17 7 rfl rfl)
theorem dX0_known_410 : decode cX0_known 410 = .ok (.iastore, 1) := dk_79 (dk_at dksX0_known_17 9 rfl rfl)
theorem dX0_known_411 : decode cX0_known 411 = .ok (.dup, 1) := dk_89 (dk_at dksX0_known_17 10 rfl rfl)
theorem dX0_known_412 : decode cX0_known 412 = .ok (.iconst 2, 1) := dk_5 (dk_at dksX0_known_17 11 rfl rfl)
theorem dX0_known_413 : decode cX0_known 413 = .ok (.sipush 209, 3) := dk_17 0 209 (dk_at dksX0_known_17 12 rfl rfl)
theorem dX0_known_416 : decode cX0_known 416 = .ok (.iastore, 1) := dk_79 (dk_at dksX0_known_17 15 rfl rfl)
theorem dX0_known_417 : decode cX0_known 417 = .ok (.dup, 1) := dk_89 (dk_at dksX0_known_17 16 rfl rfl)
theorem dX0_known_418 : decode cX0_known 418 = .ok (.iconst 3, 1) := dk_6 (dk_at dksX0_known_17 17 rfl rfl)
theorem dX0_known_419 : decode cX0_known 419 = .ok (.bipush 62, 2) := dk_16 62 (dk_at dksX0_known_17 18 rfl rfl)
theorem dX0_known_421 : decode cX0_known 421 = .ok (.iastore, 1) := dk_79 (dk_at dksX0_known_17 20 rfl rfl)
theorem dX0_known_422 : decode cX0_known 422 = .ok (.dup, 1) := dk_89 (dk_at dksX0_known_17 21 rfl rfl)
theorem dX0_known_423 : decode cX0_known 423 = .ok (.iconst 4, 1) := dk_7 (dk_at dksX0_known_17 22 rfl rfl)
theorem dX0_known_424 : decode cX0_known 424 = .ok (.sipush 188, 3) := dk_17 0 188 (dk_at dksX0_known_18 0 rfl rfl)
theorem dX0_known_427 : decode cX0_known 427 = .ok (.iastore, 1) := dk_79 (dk_at dksX0_known_18 3 rfl rfl)
theorem dX0_known_428 : decode cX0_known 428 = .ok (.dup, 1) := dk_89 (dk_at dksX0_known_18 4 rfl rfl)
theorem dX0_known_429 : decode cX0_known 429 = .ok (.iconst 5, 1) := dk_8 (dk_at dksX0_known_18 5 rfl rfl)
theorem dX0_known_430 : decode cX0_known 430 = .ok (.sipush 174, 3) := dk_17 0 174 (dk_at dksX0_known_18 6 rfl rfl)
theorem dX0_known_433 : decode cX0_known 433 = .ok (.iastore, 1) := dk_79 (dk_at dksX0_known_18 9 rfl rfl)
theorem dX0_known_434 : decode cX0_known 434 = .ok (.dup, 1) := dk_89 (dk_at dksX0_known_18 10 rfl rfl)
theorem dX0_known_435 : decode cX0_known 435 = .ok (.bipush 6, 2) := dk_16 6 (dk_at dksX0_known_18 11 rfl rfl)
theorem dX0_known_437 : decode cX0_known 437 = .ok (.bipush 112, 2) := dk_16 112 (dk_at dksX0_known_18 13 rfl rfl)
theorem dX0_known_439 : decode cX0_known 439 = .ok (.iastore, 1) := dk_79 (dk_at dksX0_known_18 15 rfl rfl)
theorem dX0_known_440 : decode cX0_known 440 = .ok (.dup, 1) := dk_89 (dk_at dksX0_known_18 16 rfl rfl)
theorem dX0_known_441 : decode cX0_known 441 = .ok (.bipush 7, 2) := dk_16 7 (dk_at dksX0_known_18 17 rfl rfl)
theorem dX0_known_443 : decode cX0_known 443 = .ok (.bipush 109, 2) := dk_16 109 (dk_at dksX0_known_18 19 rfl rfl)
theorem dX0_known_445 : decode cX0_known 445 = .ok (.iastore, 1) := dk_79 (dk_at dksX0_known_18 21 rfl rfl)
theorem dX0_known_446 : decode cX0_known 446 = .ok (.dup, 1) := dk_89 (dk_at dksX0_known_18 22 rfl rfl)
theorem dX0_known_447 : decode cX0_known 447 = .ok (.bipush 8, 2) := dk_16 8 (dk_at dksX0_known_19 0 rfl rfl)
theorem dX0_known_449 : decode cX0_known 449 = .ok (.bipush 34, 2) := dk_16 34 (dk_at dksX0_known_19 2 rfl rfl)
theorem dX0_known_451 : decode cX0_known 451 = .ok (.iastore, 1) := dk_79 (dk_at dksX0_known_19 4 rfl rfl)
theorem dX0_known_452 : decode cX0_known 452 = .ok (.dup, 1) := dk_89 (dk_at dksX0_known_19 5 rfl rfl)
theorem dX0_known_453 : decode cX0_known 453 = .ok (.bipush 9, 2) := dk_16 9 (dk_at dksX0_known_19 6 rfl rfl)
theorem dX0_known_455 : decode cX0_known 455 = .ok (.bipush 107, 2) := dk_16 107 (dk_at dksX0_known_19 8 rfl rfl)
theorem dX0_known_457 : decode cX0_known 457 = .ok (.iastore, 1) := dk_79 (dk_at dksX0_known_19 10 rfl rfl)
theorem dX0_known_458 : decode cX0_known 458 = .ok (.dup, 1) := dk_89 (dk_at dksX0_known_19 11 rfl rfl)
theorem dX0_known_459 : decode cX0_known 459 = .ok (.bipush 10, 2) := dk_16 10 (dk_at dksX0_known_19 12 rfl rfl)
theorem dX0_known_461 : decode cX0_known 461 = .ok (.sipush 195, 3) := dk_17 0 195 (dk_at dksX0_known_19 14 rfl rfl)
theorem dX0_known_464 : decode cX0_known 464 = .ok (.iastore, 1) := dk_79 (dk_at dksX0_known_19 17 rfl rfl)
theorem dX0_known_465 : decode cX0_known 465 = .ok (.dup, 1) := dk_89 (dk_at dksX0_known_19 18 rfl rfl)
theorem dX0_known_466 : decode cX0_known 466 = .ok (.bipush 11, 2) := dk_16 11 (dk_at dksX0_known_19 19 rfl rfl)
theorem dX0_known_468 : decode cX0_known 468 = .ok (.bipush 20, 2) := dk_16 20 (dk_at dksX0_known_19 21 rfl rfl)
theorem dX0_known_470 : decode cX0_known 470 = .ok (.iastore, 1) := dk_79 (dk_at dksX0_known_19 23 rfl rfl)
theorem dX0_known_471 : decode cX0_known 471 = .ok (.dup, 1) := dk_89 (dk_at dksX0_known_20 0 rfl rfl)
theorem dX0_known_472 : decode cX0_known 472 = .ok (.bipush 12, 2) := dk_16 12 (dk_at dksX0_known_20 1 rfl rfl)
theorem dX0_known_474 : decode cX0_known 474 = .ok (.bipush 44, 2) := dk_16 44 (dk_at dksX0_known_20 3 rfl rfl)
theorem dX0_known_476 : decode cX0_known 476 = .ok (.iastore, 1) := dk_79 (dk_at dksX0_known_20 5 rfl rfl)
theorem dX0_known_477 : decode cX0_known 477 = .ok (.dup, 1) := dk_89 (dk_at dksX0_known_20 6 rfl rfl)
theorem dX0_known_478 : decode cX0_known 478 = .ok (.bipush 13, 2) := dk_16 13 (dk_at dksX0_known_20 7 rfl rfl)
theorem dX0_known_480 : decode cX0_known 480 = .ok (.sipush 212, 3) := dk_17 0 212 (dk_at dksX0_known_20 9 rfl rfl)
theorem dX0_known_483 : decode cX0_known 483 = .ok (.iastore, 1) := dk_79 (dk_at dksX0_known_20 12 rfl rfl)
theorem dX0_known_484 : decode cX0_known 484 = .ok (.dup, 1) := dk_89 (dk_at dksX0_known_20 13 rfl rfl)
theorem dX0_known_485 : decode cX0_known 485 = .ok (.bipush 14, 2) := dk_16 14 (dk_at dksX0_known_20 14 rfl rfl)
theorem dX0_known_487 : decode cX0_known 487 = .ok (.bipush 13, 2) := dk_16 13 (dk_at dksX0_known_20 16 rfl rfl)
theorem dX0_known_489 : decode cX0_known 489 = .ok (.iastore, 1) := dk_79 (dk_at dksX0_known_20 18 rfl rfl)
theorem dX0_known_490 : decode cX0_known 490 = .ok (.dup, 1) := dk_89 (dk_at dksX0_known_20 19 rfl rfl)
theorem dX0_known_491 : decode cX0_known 491 = .ok (.bipush 15, 2) := dk_16 15 (dk_at dksX0_known_20 20 rfl rfl)
theorem dX0_known_493 : decode cX0_known 493 = .ok (.bipush 74, 2) := dk_16 74 (dk_at dksX0_known_20 22 rfl rfl)
theorem dX0_known_495 : decode cX0_known 495 = .ok (.iastore, 1) := dk_79 (dk_at dksX0_known_21 0 rfl rfl)
theorem dX0_known_496 : decode cX0_known 496 = .ok (.astore 5, 2) := dk_58 5 (dk_at dksX0_known_21 1 rfl rfl)
theorem dX0_known_498 : decode cX0_known 498 = .ok (.iconst 0, 1) := dk_3 (dk_at dksX0_known_21 3 rfl rfl)
theorem dX0_known_499 : decode cX0_known 499 = .ok (.istore 6, 2) := dk_54 6 (dk_at dksX0_known_21 4 rfl rfl)
theorem dX0_known_501 : decode cX0_known 501 = .ok (.iload 6, 2) := dk_21 6 (dk_at dksX0_known_21 6 rfl rfl)
theorem dX0_known_503 : decode cX0_known 503 = .ok (.bipush 16, 2) := dk_16 16 (dk_at dksX0_known_21 8 rfl rfl)
theorem dX0_known_505 : decode cX0_known 505 = .ok (.if_icmp .ge 26, 3) := dk_162 0 26 (dk_at dksX0_known_21 10 rfl rfl)
theorem dX0_known_508 : decode cX0_known 508 = .ok (.aload 4, 2) := dk_25 4 (dk_at dksX0_known_21 13 rfl rfl)
theorem dX0_known_510 : decode cX0_known 510 = .ok (.iload 6, 2) := dk_21 6 (dk_at dksX0_known_21 15 rfl rfl)
theorem dX0_known_512 : decode cX0_known 512 = .ok (.invokevirtual 24, 3) := dk_182 0 24 (dk_at dksX0_known_21 17 rfl rfl)
theorem dX0_known_515 : decode cX0_known 515 = .ok (.aload 5, 2) := dk_25 5 (dk_at dksX0_known_21 20 rfl rfl)
theorem dX0_known_517 : decode cX0_known 517 = .ok (.iload 6, 2) := dk_21 6 (dk_at dksX0_known_21 22 rfl rfl)
theorem dX0_known_519 : decode cX0_known 519 = .ok (.iaload, 1) := dk_46 (dk_at dksX0_known_22 0 rfl rfl)
theorem dX0_known_520 : decode cX0_known 520 = .ok (.if_icmp .eq 5, 3) := dk_159 0 5 (dk_at dksX0_known_22 1 rfl rfl)
theorem dX0_known_523 : decode cX0_known 523 = .ok (.iconst 0, 1) := dk_3 (dk_at dksX0_known_22 4 rfl rfl)
theorem dX0_known_524 : decode cX0_known 524 = .ok (.ireturn, 1) := dk_172 (dk_at dksX0_known_22 5 rfl rfl)
theorem dX0_known_525 : decode cX0_known 525 = .ok (.iinc 6 1, 3) := dk_132 6 1 (dk_at dksX0_known_22 6 rfl rfl)
theorem dX0_known_528 : decode cX0_known 528 = .ok (.goto (-27), 3) := dk_167 255 229 (dk_at dksX0_known_22 9 rfl rfl)
theorem dX0_known_531 : decode cX0_known 531 = .ok (.new 7, 3) := dk_187 0 7 (dk_at dksX0_known_22 12 rfl rfl)
theorem dX0_known_534 : decode cX0_known 534 = .ok (.dup, 1) := dk_89 (dk_at dksX0_known_22 15 rfl rfl)
theorem dX0_known_535 : decode cX0_known 535 = .ok (.invokespecial 9, 3) := dk_183 0 9 (dk_at dksX0_known_22 16 rfl rfl)
theorem dX0_known_538 : decode cX0_known 538 = .ok (.astore 6, 2) := dk_58 6 (dk_at dksX0_known_22 19 rfl rfl)
theorem dX0_known_540 : decode cX0_known 540 = .ok (.aload 6, 2) := dk_25 6 (dk_at dksX0_known_22 21 rfl rfl)
theorem dX0_known_542 : decode cX0_known 542 = .ok (.iconst 0, 1) := dk_3 (dk_at dksX0_known_22 23 rfl rfl)
theorem dX0_known_543 : decode cX0_known 543 = .ok (.ldc 44, 2) := dk_18 44 (dk_at dksX0_known_23 0 rfl rfl)
theorem dX0_known_545 : decode cX0_known 545 = .ok (.ldc 45, 2) := dk_18 45 (dk_at dksX0_known_23 2 rfl rfl)
theorem dX0_known_547 : decode cX0_known 547 = .ok (.ldc 46, 2) := dk_18 46 (dk_at dksX0_known_23 4 rfl rfl)
theorem dX0_known_549 : decode cX0_known 549 = .ok (.ldc 47, 2) := dk_18 47 (dk_at dksX0_known_23 6 rfl rfl)
theorem dX0_known_551 : decode cX0_known 551 = .ok (.invokevirtual 16, 3) := dk_182 0 16 (dk_at dksX0_known_23 8 rfl rfl)
theorem dX0_known_554 : decode cX0_known 554 = .ok (.aload 6, 2) := dk_25 6 (dk_at dksX0_known_23 11 rfl rfl)
theorem dX0_known_556 : decode cX0_known 556 = .ok (.iconst 1, 1) := dk_4 (dk_at dksX0_known_23 13 rfl rfl)
theorem dX0_known_557 : decode cX0_known 557 = .ok (.iconst 0, 1) := dk_3 (dk_at dksX0_known_23 14 rfl rfl)
theorem dX0_known_558 : decode cX0_known 558 = .ok (.iconst 0, 1) := dk_3 (dk_at dksX0_known_23 15 rfl rfl)
theorem dX0_known_559 : decode cX0_known 559 = .ok (.iconst 0, 1) := dk_3 (dk_at dksX0_known_23 16 rfl rfl)
theorem dX0_known_560 : decode cX0_known 560 = .ok (.iconst 0, 1) := dk_3 (dk_at dksX0_known_23 17 rfl rfl)
theorem dX0_known_561 : decode cX0_known 561 = .ok (.invokevirtual 16, 3) := dk_182 0 16 (dk_at dksX0_known_23 18 rfl rfl)
theorem dX0_known_564 : decode cX0_known 564 = .ok (.aload 6, 2) := dk_25 6 (dk_at dksX0_known_23 21 rfl rfl)
theorem dX0_known_566 : decode cX0_known 566 = .ok (.ldc 48, 2) := dk_18 48 (dk_at dksX0_known_24 0 rfl rfl)
theorem dX0_known_568 : decode cX0_known 568 = .ok (.ldc 49, 2) := dk_18 49 (dk_at dksX0_known_24 2 rfl rfl)
theorem dX0_known_570 : decode cX0_known 570 = .ok (.ldc 50, 2) := dk_18 50 (dk_at dksX0_known_24 4 rfl rfl)
theorem dX0_known_572 : decode cX0_known 572 = .ok (.ldc 51, 2) := dk_18 51 (dk_at dksX0_known_24 6 rfl rfl)
theorem dX0_known_574 : decode cX0_known 574 = .ok (.invokevirtual 20, 3) := dk_182 0 20 (dk_at dksX0_known_24 8 rfl rfl)
theorem dX0_known_577 : decode cX0_known 577 = .ok (.aload 6, 2) := dk_25 6 (dk_at dksX0_known_24 11 rfl rfl)
theorem dX0_known_579 : decode cX0_known 579 = .ok (.iconst 0, 1) := dk_3 (dk_at dksX0_known_24 13 rfl rfl)
theorem dX0_known_580 : decode cX0_known 580 = .ok (.invokevirtual 32, 3) := dk_182 0 32 (dk_at dksX0_known_24 14 rfl rfl)
theorem dX0_known_583 : decode cX0_known 583 = .ok (.bipush 16, 2) := dk_16 16 (dk_at dksX0_known_24 17 rfl rfl)
theorem dX0_known_585 : decode cX0_known 585 = .ok (.newarray .int, 2) := dk_188_10 (dk_at dksX0_known_24 19 rfl rfl)
theorem dX0_known_587 : decode cX0_known 587 = .ok (.dup, 1) := dk_89 (dk_at dksX0_known_24 21 rfl rfl)
theorem dX0_known_588 : decode cX0_known 588 = .ok (.iconst 0, 1) := dk_3 (dk_at dksX0_known_24 22 rfl rfl)
theorem dX0_known_589 : decode cX0_known 589 = .ok (.sipush 155, 3) := dk_17 0 155 (dk_at dksX0_known_25 0 rfl rfl)
theorem dX0_known_592 : decode cX0_known 592 = .ok (.iastore, 1) := dk_79 (dk_at dksX0_known_25 3 rfl rfl)
theorem dX0_known_593 : decode cX0_known 593 = .ok (.dup, 1) := dk_89 (dk_at dksX0_known_25 4 rfl rfl)
theorem dX0_known_594 : decode cX0_known 594 = .ok (.iconst 1, 1) := dk_4 (dk_at dksX0_known_25 5 rfl rfl)
theorem dX0_known_595 : decode cX0_known 595 = .ok (.sipush 155, 3) := dk_17 0 155 (dk_at dksX0_known_25 6 rfl rfl)
theorem dX0_known_598 : decode cX0_known 598 = .ok (.iastore, 1) := dk_79 (dk_at dksX0_known_25 9 rfl rfl)
theorem dX0_known_599 : decode cX0_known 599 = .ok (.dup, 1) := dk_89 (dk_at dksX0_known_25 10 rfl rfl)
theorem dX0_known_600 : decode cX0_known 600 = .ok (.iconst 2, 1) := dk_5 (dk_at dksX0_known_25 11 rfl rfl)
theorem dX0_known_601 : decode cX0_known 601 = .ok (.bipush 123, 2) := dk_16 123 (dk_at dksX0_known_25 12 rfl rfl)
theorem dX0_known_603 : decode cX0_known 603 = .ok (.iastore, 1) := dk_79 (dk_at dksX0_known_25 14 rfl rfl)
theorem dX0_known_604 : decode cX0_known 604 = .ok (.dup, 1) := dk_89 (dk_at dksX0_known_25 15 rfl rfl)
theorem dX0_known_605 : decode cX0_known 605 = .ok (.iconst 3, 1) := dk_6 (dk_at dksX0_known_25 16 rfl rfl)
theorem dX0_known_606 : decode cX0_known 606 = .ok (.sipush 252, 3) := dk_17 0 252 (dk_at dksX0_known_25 17 rfl rfl)
theorem dX0_known_609 : decode cX0_known 609 = .ok (.iastore, 1) := dk_79 (dk_at dksX0_known_25 20 rfl rfl)
theorem dX0_known_610 : decode cX0_known 610 = .ok (.dup, 1) := dk_89 (dk_at dksX0_known_25 21 rfl rfl)
theorem dX0_known_611 : decode cX0_known 611 = .ok (.iconst 4, 1) := dk_7 (dk_at dksX0_known_25 22 rfl rfl)
theorem dX0_known_612 : decode cX0_known 612 = .ok (.sipush 209, 3) := dk_17 0 209 (dk_at dksX0_known_26 0 rfl rfl)
theorem dX0_known_615 : decode cX0_known 615 = .ok (.iastore, 1) := dk_79 (dk_at dksX0_known_26 3 rfl rfl)
theorem dX0_known_616 : decode cX0_known 616 = .ok (.dup, 1) := dk_89 (dk_at dksX0_known_26 4 rfl rfl)
theorem dX0_known_617 : decode cX0_known 617 = .ok (.iconst 5, 1) := dk_8 (dk_at dksX0_known_26 5 rfl rfl)
theorem dX0_known_618 : decode cX0_known 618 = .ok (.sipush 129, 3) := dk_17 0 129 (dk_at dksX0_known_26 6 rfl rfl)
theorem dX0_known_621 : decode cX0_known 621 = .ok (.iastore, 1) := dk_79 (dk_at dksX0_known_26 9 rfl rfl)
theorem dX0_known_622 : decode cX0_known 622 = .ok (.dup, 1) := dk_89 (dk_at dksX0_known_26 10 rfl rfl)
theorem dX0_known_623 : decode cX0_known 623 = .ok (.bipush 6, 2) := dk_16 6 (dk_at dksX0_known_26 11 rfl rfl)
theorem dX0_known_625 : decode cX0_known 625 = .ok (.bipush 60, 2) := dk_16 60 (dk_at dksX0_known_26 13 rfl rfl)
theorem dX0_known_627 : decode cX0_known 627 = .ok (.iastore, 1) := dk_79 (dk_at dksX0_known_26 15 rfl rfl)
theorem dX0_known_628 : decode cX0_known 628 = .ok (.dup, 1) := dk_89 (dk_at dksX0_known_26 16 rfl rfl)
theorem dX0_known_629 : decode cX0_known 629 = .ok (.bipush 7, 2) := dk_16 7 (dk_at dksX0_known_26 17 rfl rfl)
theorem dX0_known_631 : decode cX0_known 631 = .ok (.sipush 185, 3) := dk_17 0 185 (dk_at dksX0_known_26 19 rfl rfl)
theorem dX0_known_634 : decode cX0_known 634 = .ok (.iastore, 1) := dk_79 (dk_at dksX0_known_26 22 rfl rfl)
theorem dX0_known_635 : decode cX0_known 635 = .ok (.dup, 1) := dk_89 (dk_at dksX0_known_26 23 rfl rfl)
theorem dX0_known_636 : decode cX0_known 636 = .ok (.bipush 8, 2) := dk_16 8 (dk_at dksX0_known_27 0 rfl rfl)
theorem dX0_known_638 : decode cX0_known 638 = .ok (.bipush 93, 2) := dk_16 93 (dk_at dksX0_known_27 2 rfl rfl)
theorem dX0_known_640 : decode cX0_known 640 = .ok (.iastore, 1) := dk_79 (dk_at dksX0_known_27 4 rfl rfl)
theorem dX0_known_641 : decode cX0_known 641 = .ok (.dup, 1) := dk_89 (dk_at dksX0_known_27 5 rfl rfl)
theorem dX0_known_642 : decode cX0_known 642 = .ok (.bipush 9, 2) := dk_16 9 (dk_at dksX0_known_27 6 rfl rfl)
theorem dX0_known_644 : decode cX0_known 644 = .ok (.bipush 11, 2) := dk_16 11 (dk_at dksX0_known_27 8 rfl rfl)
theorem dX0_known_646 : decode cX0_known 646 = .ok (.iastore, 1) := dk_79 (dk_at dksX0_known_27 10 rfl rfl)
theorem dX0_known_647 : decode cX0_known 647 = .ok (.dup, 1) := dk_89 (dk_at dksX0_known_27 11 rfl rfl)
theorem dX0_known_648 : decode cX0_known 648 = .ok (.bipush 10, 2) := dk_16 10 (dk_at dksX0_known_27 12 rfl rfl)
theorem dX0_known_650 : decode cX0_known 650 = .ok (.bipush 54, 2) := dk_16 54 (dk_at dksX0_known_27 14 rfl rfl)
theorem dX0_known_652 : decode cX0_known 652 = .ok (.iastore, 1) := dk_79 (dk_at dksX0_known_27 16 rfl rfl)
theorem dX0_known_653 : decode cX0_known 653 = .ok (.dup, 1) := dk_89 (dk_at dksX0_known_27 17 rfl rfl)
theorem dX0_known_654 : decode cX0_known 654 = .ok (.bipush 11, 2) := dk_16 11 (dk_at dksX0_known_27 18 rfl rfl)
theorem dX0_known_656 : decode cX0_known 656 = .ok (.bipush 24, 2) := dk_16 24 (dk_at dksX0_known_27 20 rfl rfl)
theorem dX0_known_658 : decode cX0_known 658 = .ok (.iastore, 1) := dk_79 (dk_at dksX0_known_27 22 rfl rfl)
theorem dX0_known_659 : decode cX0_known 659 = .ok (.dup, 1) := dk_89 (dk_at dksX0_known_27 23 rfl rfl)
theorem dX0_known_660 : decode cX0_known 660 = .ok (.bipush 12, 2) := dk_16 12 (dk_at dksX0_known_28 0 rfl rfl)
theorem dX0_known_662 : decode cX0_known 662 = .ok (.sipush 244, 3) := dk_17 0 244 (dk_at dksX0_known_28 2 rfl rfl)
theorem dX0_known_665 : decode cX0_known 665 = .ok (.iastore, 1) := dk_79 (dk_at dksX0_known_28 5 rfl rfl)
theorem dX0_known_666 : decode cX0_known 666 = .ok (.dup, 1) := dk_89 (dk_at dksX0_known_28 6 rfl rfl)
theorem dX0_known_667 : decode cX0_known 667 = .ok (.bipush 13, 2) := dk_16 13 (dk_at dksX0_known_28 7 rfl rfl)
theorem dX0_known_669 : decode cX0_known 669 = .ok (.bipush 15, 2) := dk_16 15 (dk_at dksX0_known_28 9 rfl rfl)
theorem dX0_known_671 : decode cX0_known 671 = .ok (.iastore, 1) := dk_79 (dk_at dksX0_known_28 11 rfl rfl)
theorem dX0_known_672 : decode cX0_known 672 = .ok (.dup, 1) := dk_89 (dk_at dksX0_known_28 12 rfl rfl)
theorem dX0_known_673 : decode cX0_known 673 = .ok (.bipush 14, 2) := dk_16 14 (dk_at dksX0_known_28 13 rfl rfl)
theorem dX0_known_675 : decode cX0_known 675 = .ok (.bipush 81, 2) := dk_16 81 (dk_at dksX0_known_28 15 rfl rfl)
theorem dX0_known_677 : decode cX0_known 677 = .ok (.iastore, 1) := dk_79 (dk_at dksX0_known_28 17 rfl rfl)
theorem dX0_known_678 : decode cX0_known 678 = .ok (.dup, 1) := dk_89 (dk_at dksX0_known_28 18 rfl rfl)
theorem dX0_known_679 : decode cX0_known 679 = .ok (.bipush 15, 2) := dk_16 15 (dk_at dksX0_known_28 19 rfl rfl)
theorem dX0_known_681 : decode cX0_known 681 = .ok (.bipush 34, 2) := dk_16 34 (dk_at dksX0_known_28 21 rfl rfl)
theorem dX0_known_683 : decode cX0_known 683 = .ok (.iastore, 1) := dk_79 (dk_at dksX0_known_28 23 rfl rfl)
theorem dX0_known_684 : decode cX0_known 684 = .ok (.astore 7, 2) := dk_58 7 (dk_at dksX0_known_29 0 rfl rfl)
theorem dX0_known_686 : decode cX0_known 686 = .ok (.iconst 0, 1) := dk_3 (dk_at dksX0_known_29 2 rfl rfl)
theorem dX0_known_687 : decode cX0_known 687 = .ok (.istore 8, 2) := dk_54 8 (dk_at dksX0_known_29 3 rfl rfl)
theorem dX0_known_689 : decode cX0_known 689 = .ok (.iload 8, 2) := dk_21 8 (dk_at dksX0_known_29 5 rfl rfl)
theorem dX0_known_691 : decode cX0_known 691 = .ok (.bipush 16, 2) := dk_16 16 (dk_at dksX0_known_29 7 rfl rfl)
theorem dX0_known_693 : decode cX0_known 693 = .ok (.if_icmp .ge 26, 3) := dk_162 0 26 (dk_at dksX0_known_29 9 rfl rfl)
theorem dX0_known_696 : decode cX0_known 696 = .ok (.aload 6, 2) := dk_25 6 (dk_at dksX0_known_29 12 rfl rfl)
theorem dX0_known_698 : decode cX0_known 698 = .ok (.iload 8, 2) := dk_21 8 (dk_at dksX0_known_29 14 rfl rfl)
theorem dX0_known_700 : decode cX0_known 700 = .ok (.invokevirtual 24, 3) := dk_182 0 24 (dk_at dksX0_known_29 16 rfl rfl)
theorem dX0_known_703 : decode cX0_known 703 = .ok (.aload 7, 2) := dk_25 7 (dk_at dksX0_known_29 19 rfl rfl)
theorem dX0_known_705 : decode cX0_known 705 = .ok (.iload 8, 2) := dk_21 8 (dk_at dksX0_known_29 21 rfl rfl)
theorem dX0_known_707 : decode cX0_known 707 = .ok (.iaload, 1) := dk_46 (dk_at dksX0_known_29 23 rfl rfl)
theorem dX0_known_708 : decode cX0_known 708 = .ok (.if_icmp .eq 5, 3) := dk_159 0 5 (dk_at dksX0_known_30 0 rfl rfl)
theorem dX0_known_711 : decode cX0_known 711 = .ok (.iconst 0, 1) := dk_3 (dk_at dksX0_known_30 3 rfl rfl)
theorem dX0_known_712 : decode cX0_known 712 = .ok (.ireturn, 1) := dk_172 (dk_at dksX0_known_30 4 rfl rfl)
theorem dX0_known_713 : decode cX0_known 713 = .ok (.iinc 8 1, 3) := dk_132 8 1 (dk_at dksX0_known_30 5 rfl rfl)
theorem dX0_known_716 : decode cX0_known 716 = .ok (.goto (-27), 3) := dk_167 255 229 (dk_at dksX0_known_30 8 rfl rfl)
theorem dX0_known_719 : decode cX0_known 719 = .ok (.iconst 1, 1) := dk_4 (dk_at dksX0_known_30 11 rfl rfl)
theorem dX0_known_720 : decode cX0_known 720 = .ok (.ireturn, 1) := dk_172 (dk_at dksX0_known_30 12 rfl rfl)
theorem q13 : (Jvm.Cond.initialized "SeedDeskLaw") ∈ lw_all := lw_g (lw_at lw_m1 0 rfl) rfl
theorem q26 : (Jvm.Cond.methodLink "SeedDeskLaw" (32 : Nat) ({ cls := "SeedDesk", name := "lock", desc := "(I)V" } : Jvm.MethodName)) ∈ lw_all := lw_g (lw_at lw_m1 13 rfl) rfl
theorem q277 : (Jvm.Cond.methodLink "SeedDeskLaw" (60 : Nat) ({ cls := "SeedDesk", name := "open", desc := "(I)V" } : Jvm.MethodName)) ∈ lw_all := lw_g (lw_at lw_m2 24 rfl) rfl
theorem q281 : (Jvm.Cond.methodLink "SeedDeskLaw" (63 : Nat) ({ cls := "SeedDesk", name := "again", desc := "()V" } : Jvm.MethodName)) ∈ lw_all := lw_g (lw_at lw_m2 28 rfl) rfl
theorem q285 : (Jvm.Cond.methodLink "SeedDeskLaw" (56 : Nat) ({ cls := "SeedDeskLaw", name := "with", desc := "([I)LSeedDesk;" } : Jvm.MethodName)) ∈ lw_all := lw_g (lw_at lw_m2 32 rfl) rfl
theorem q286 : (Jvm.Cond.static ({ cls := "SeedDeskLaw", name := "with", desc := "([I)LSeedDesk;" } : Jvm.MethodName)) ∈ lw_all := lw_g (lw_at lw_m2 33 rfl) rfl
theorem q287 : (Jvm.Cond.code ({ cls := "SeedDeskLaw", name := "with", desc := "([I)LSeedDesk;" } : Jvm.MethodName) method_3_code (2 : Nat) (Option.some (Jvm.ClassFile.FieldType.object "SeedDesk"))) ∈ lw_all := lw_g (lw_at lw_m2 34 rfl) rfl
theorem q288 : (Jvm.Cond.classLink "SeedDeskLaw" (7 : Nat) "SeedDesk") ∈ lw_all := lw_g (lw_at lw_m2 35 rfl) rfl
theorem q289 : (Jvm.Cond.methodLink "SeedDeskLaw" (9 : Nat) ({ cls := "SeedDesk", name := "<init>", desc := "()V" } : Jvm.MethodName)) ∈ lw_all := lw_g (lw_at lw_m2 36 rfl) rfl
theorem q303 : (Jvm.Cond.methodLink "SeedDeskLaw" (10 : Nat) ({ cls := "SeedDeskLaw", name := "cell", desc := "([II)I" } : Jvm.MethodName)) ∈ lw_all := lw_g (lw_at lw_m2 50 rfl) rfl
theorem q304 : (Jvm.Cond.static ({ cls := "SeedDeskLaw", name := "cell", desc := "([II)I" } : Jvm.MethodName)) ∈ lw_all := lw_g (lw_at lw_m2 51 rfl) rfl
theorem q305 : (Jvm.Cond.code ({ cls := "SeedDeskLaw", name := "cell", desc := "([II)I" } : Jvm.MethodName) method_2_code (2 : Nat) (Option.some Jvm.ClassFile.FieldType.int)) ∈ lw_all := lw_g (lw_at lw_m2 52 rfl) rfl
theorem q306 : (Jvm.Cond.methodLink "SeedDeskLaw" (16 : Nat) ({ cls := "SeedDesk", name := "key", desc := "(IIIII)V" } : Jvm.MethodName)) ∈ lw_all := lw_g (lw_at lw_m2 53 rfl) rfl
theorem q313 : (Jvm.Cond.methodLink "SeedDeskLaw" (20 : Nat) ({ cls := "SeedDesk", name := "block", desc := "(IIII)V" } : Jvm.MethodName)) ∈ lw_all := lw_g (lw_at lw_m2 60 rfl) rfl
theorem q317 : (Jvm.Cond.methodLink "SeedDeskLaw" (66 : Nat) ({ cls := "SeedDeskLaw", name := "same", desc := "(LSeedDesk;[I)Z" } : Jvm.MethodName)) ∈ lw_all := lw_g (lw_at lw_m2 64 rfl) rfl
theorem q318 : (Jvm.Cond.static ({ cls := "SeedDeskLaw", name := "same", desc := "(LSeedDesk;[I)Z" } : Jvm.MethodName)) ∈ lw_all := lw_g (lw_at lw_m2 65 rfl) rfl
theorem q319 : (Jvm.Cond.code ({ cls := "SeedDeskLaw", name := "same", desc := "(LSeedDesk;[I)Z" } : Jvm.MethodName) method_4_code (3 : Nat) (Option.some Jvm.ClassFile.FieldType.boolean)) ∈ lw_all := lw_g (lw_at lw_m2 66 rfl) rfl
theorem q320 : (Jvm.Cond.methodLink "SeedDeskLaw" (24 : Nat) ({ cls := "SeedDesk", name := "out", desc := "(I)I" } : Jvm.MethodName)) ∈ lw_all := lw_g (lw_at lw_m2 67 rfl) rfl
theorem q324 : (Jvm.Cond.methodLink "SeedDeskLaw" (52 : Nat) ({ cls := "SeedDeskLaw", name := "known", desc := "()Z" } : Jvm.MethodName)) ∈ lw_all := lw_g (lw_at lw_m2 71 rfl) rfl
theorem q325 : (Jvm.Cond.static ({ cls := "SeedDeskLaw", name := "known", desc := "()Z" } : Jvm.MethodName)) ∈ lw_all := lw_g (lw_at lw_m2 72 rfl) rfl
theorem q326 : (Jvm.Cond.code ({ cls := "SeedDeskLaw", name := "known", desc := "()Z" } : Jvm.MethodName) method_5_code (9 : Nat) (Option.some Jvm.ClassFile.FieldType.boolean)) ∈ lw_all := lw_g (lw_at lw_m2 73 rfl) rfl
theorem q327 : (Jvm.Cond.constant "SeedDeskLaw" (28 : Nat) (66051 : Int32)) ∈ lw_all := lw_g (lw_at lw_m2 74 rfl) rfl
theorem q328 : (Jvm.Cond.constant "SeedDeskLaw" (29 : Nat) (67438087 : Int32)) ∈ lw_all := lw_g (lw_at lw_m2 75 rfl) rfl
theorem q329 : (Jvm.Cond.constant "SeedDeskLaw" (30 : Nat) (134810123 : Int32)) ∈ lw_all := lw_g (lw_at lw_m2 76 rfl) rfl
theorem q330 : (Jvm.Cond.constant "SeedDeskLaw" (31 : Nat) (202182159 : Int32)) ∈ lw_all := lw_g (lw_at lw_m2 77 rfl) rfl
theorem q331 : (Jvm.Cond.constant "SeedDeskLaw" (36 : Nat) (1191593992 : Int32)) ∈ lw_all := lw_g (lw_at lw_m2 78 rfl) rfl
theorem q332 : (Jvm.Cond.constant "SeedDeskLaw" (37 : Nat) (1374034920 : Int32)) ∈ lw_all := lw_g (lw_at lw_m2 79 rfl) rfl
theorem q333 : (Jvm.Cond.constant "SeedDeskLaw" (38 : Nat) (1567932339 : Int32)) ∈ lw_all := lw_g (lw_at lw_m2 80 rfl) rfl
theorem q334 : (Jvm.Cond.constant "SeedDeskLaw" (39 : Nat) (-40541819 : Int32)) ∈ lw_all := lw_g (lw_at lw_m2 81 rfl) rfl
theorem q335 : (Jvm.Cond.constant "SeedDeskLaw" (40 : Nat) (-2086471518 : Int32)) ∈ lw_all := lw_g (lw_at lw_m2 82 rfl) rfl
theorem q336 : (Jvm.Cond.constant "SeedDeskLaw" (41 : Nat) (-2006704199 : Int32)) ∈ lw_all := lw_g (lw_at lw_m2 83 rfl) rfl
theorem q337 : (Jvm.Cond.constant "SeedDeskLaw" (42 : Nat) (-1528191540 : Int32)) ∈ lw_all := lw_g (lw_at lw_m2 84 rfl) rfl
theorem q338 : (Jvm.Cond.constant "SeedDeskLaw" (43 : Nat) (789781629 : Int32)) ∈ lw_all := lw_g (lw_at lw_m2 85 rfl) rfl
theorem q339 : (Jvm.Cond.constant "SeedDeskLaw" (44 : Nat) (685491132 : Int32)) ∈ lw_all := lw_g (lw_at lw_m2 86 rfl) rfl
theorem q340 : (Jvm.Cond.constant "SeedDeskLaw" (45 : Nat) (1241503869 : Int32)) ∈ lw_all := lw_g (lw_at lw_m2 87 rfl) rfl
theorem q341 : (Jvm.Cond.constant "SeedDeskLaw" (46 : Nat) (-811267663 : Int32)) ∈ lw_all := lw_g (lw_at lw_m2 88 rfl) rfl
theorem q342 : (Jvm.Cond.constant "SeedDeskLaw" (47 : Nat) (490875879 : Int32)) ∈ lw_all := lw_g (lw_at lw_m2 89 rfl) rfl
theorem q343 : (Jvm.Cond.constant "SeedDeskLaw" (48 : Nat) (-1273074718 : Int32)) ∈ lw_all := lw_g (lw_at lw_m2 90 rfl) rfl
theorem q344 : (Jvm.Cond.constant "SeedDeskLaw" (49 : Nat) (-341292524 : Int32)) ∈ lw_all := lw_g (lw_at lw_m2 91 rfl) rfl
theorem q345 : (Jvm.Cond.constant "SeedDeskLaw" (50 : Nat) (-1909527164 : Int32)) ∈ lw_all := lw_g (lw_at lw_m2 92 rfl) rfl
theorem q346 : (Jvm.Cond.constant "SeedDeskLaw" (51 : Nat) (1497128647 : Int32)) ∈ lw_all := lw_g (lw_at lw_m2 93 rfl) rfl
/-! the law's own entry -/
set_option maxRecDepth 100000
abbrev cL_law : ByteArray := code
def dkwL_law_4 : List UInt8 := [25, 7, 42, 184, 0, 66, 154, 0, 5, 3, 172, 132, 4, 1, 167, 255, 171, 4, 172]
abbrev dktL_law_4 : List UInt8 := dkwL_law_4 ++ []
def dkwL_law_3 : List UInt8 := [182, 0, 60, 25, 7, 182, 0, 63, 25, 7, 21, 5, 182, 0, 32, 25, 6, 42, 184, 0, 66, 153, 0, 12]
abbrev dktL_law_3 : List UInt8 := dkwL_law_3 ++ dktL_law_4
def dkwL_law_2 : List UInt8 := [25, 6, 21, 5, 182, 0, 32, 25, 7, 21, 5, 182, 0, 60, 25, 6, 182, 0, 63, 25, 6, 21, 5]
abbrev dktL_law_2 : List UInt8 := dkwL_law_2 ++ dktL_law_3
def dkwL_law_1 : List UInt8 := [21, 4, 29, 162, 0, 85, 44, 21, 4, 46, 54, 5, 42, 184, 0, 56, 58, 6, 42, 184, 0, 56, 58, 7]
abbrev dktL_law_1 : List UInt8 := dkwL_law_1 ++ dktL_law_2
def dkwL_law_0 : List UInt8 := [184, 0, 52, 154, 0, 5, 3, 172, 4, 188, 10, 89, 3, 3, 79, 76, 43, 77, 44, 190, 62, 3, 54, 4]
abbrev dktL_law_0 : List UInt8 := dkwL_law_0 ++ dktL_law_1
theorem dksL_law_0 : cL_law.data.toList.drop 0 = dktL_law_0 := by decide +kernel
theorem dksL_law_1 : cL_law.data.toList.drop 24 = dktL_law_1 := dk_seg dksL_law_0 24 rfl rfl
theorem dksL_law_2 : cL_law.data.toList.drop 48 = dktL_law_2 := dk_seg dksL_law_1 24 rfl rfl
theorem dksL_law_3 : cL_law.data.toList.drop 71 = dktL_law_3 := dk_seg dksL_law_2 23 rfl rfl
theorem dksL_law_4 : cL_law.data.toList.drop 95 = dktL_law_4 := dk_seg dksL_law_3 24 rfl rfl
theorem dL_law_0 : decode cL_law 0 = .ok (.invokestatic 52, 3) := dk_184 0 52 (dk_at dksL_law_0 0 rfl rfl)
theorem dL_law_3 : decode cL_law 3 = .ok (.ifCond .ne 5, 3) := dk_154 0 5 (dk_at dksL_law_0 3 rfl rfl)
theorem dL_law_6 : decode cL_law 6 = .ok (.iconst 0, 1) := dk_3 (dk_at dksL_law_0 6 rfl rfl)
theorem dL_law_7 : decode cL_law 7 = .ok (.ireturn, 1) := dk_172 (dk_at dksL_law_0 7 rfl rfl)
theorem dL_law_8 : decode cL_law 8 = .ok (.iconst 1, 1) := dk_4 (dk_at dksL_law_0 8 rfl rfl)
theorem dL_law_9 : decode cL_law 9 = .ok (.newarray .int, 2) := dk_188_10 (dk_at dksL_law_0 9 rfl rfl)
theorem dL_law_11 : decode cL_law 11 = .ok (.dup, 1) := dk_89 (dk_at dksL_law_0 11 rfl rfl)
theorem dL_law_12 : decode cL_law 12 = .ok (.iconst 0, 1) := dk_3 (dk_at dksL_law_0 12 rfl rfl)
theorem dL_law_13 : decode cL_law 13 = .ok (.iconst 0, 1) := dk_3 (dk_at dksL_law_0 13 rfl rfl)
theorem dL_law_14 : decode cL_law 14 = .ok (.iastore, 1) := dk_79 (dk_at dksL_law_0 14 rfl rfl)
theorem dL_law_15 : decode cL_law 15 = .ok (.astore_n 1, 1) := dk_76 (dk_at dksL_law_0 15 rfl rfl)
theorem dL_law_16 : decode cL_law 16 = .ok (.aload_n 1, 1) := dk_43 (dk_at dksL_law_0 16 rfl rfl)
theorem dL_law_17 : decode cL_law 17 = .ok (.astore_n 2, 1) := dk_77 (dk_at dksL_law_0 17 rfl rfl)
theorem dL_law_18 : decode cL_law 18 = .ok (.aload_n 2, 1) := dk_44 (dk_at dksL_law_0 18 rfl rfl)
theorem dL_law_19 : decode cL_law 19 = .ok (.arraylength, 1) := dk_190 (dk_at dksL_law_0 19 rfl rfl)
theorem dL_law_20 : decode cL_law 20 = .ok (.istore_n 3, 1) := dk_62 (dk_at dksL_law_0 20 rfl rfl)
theorem dL_law_21 : decode cL_law 21 = .ok (.iconst 0, 1) := dk_3 (dk_at dksL_law_0 21 rfl rfl)
theorem dL_law_22 : decode cL_law 22 = .ok (.istore 4, 2) := dk_54 4 (dk_at dksL_law_0 22 rfl rfl)
theorem dL_law_24 : decode cL_law 24 = .ok (.iload 4, 2) := dk_21 4 (dk_at dksL_law_1 0 rfl rfl)
theorem dL_law_26 : decode cL_law 26 = .ok (.iload_n 3, 1) := dk_29 (dk_at dksL_law_1 2 rfl rfl)
theorem dL_law_27 : decode cL_law 27 = .ok (.if_icmp .ge 85, 3) := dk_162 0 85 (dk_at dksL_law_1 3 rfl rfl)
theorem dL_law_30 : decode cL_law 30 = .ok (.aload_n 2, 1) := dk_44 (dk_at dksL_law_1 6 rfl rfl)
theorem dL_law_31 : decode cL_law 31 = .ok (.iload 4, 2) := dk_21 4 (dk_at dksL_law_1 7 rfl rfl)
theorem dL_law_33 : decode cL_law 33 = .ok (.iaload, 1) := dk_46 (dk_at dksL_law_1 9 rfl rfl)
theorem dL_law_34 : decode cL_law 34 = .ok (.istore 5, 2) := dk_54 5 (dk_at dksL_law_1 10 rfl rfl)
theorem dL_law_36 : decode cL_law 36 = .ok (.aload_n 0, 1) := dk_42 (dk_at dksL_law_1 12 rfl rfl)
theorem dL_law_37 : decode cL_law 37 = .ok (.invokestatic 56, 3) := dk_184 0 56 (dk_at dksL_law_1 13 rfl rfl)
theorem dL_law_40 : decode cL_law 40 = .ok (.astore 6, 2) := dk_58 6 (dk_at dksL_law_1 16 rfl rfl)
theorem dL_law_42 : decode cL_law 42 = .ok (.aload_n 0, 1) := dk_42 (dk_at dksL_law_1 18 rfl rfl)
theorem dL_law_43 : decode cL_law 43 = .ok (.invokestatic 56, 3) := dk_184 0 56 (dk_at dksL_law_1 19 rfl rfl)
theorem dL_law_46 : decode cL_law 46 = .ok (.astore 7, 2) := dk_58 7 (dk_at dksL_law_1 22 rfl rfl)
theorem dL_law_48 : decode cL_law 48 = .ok (.aload 6, 2) := dk_25 6 (dk_at dksL_law_2 0 rfl rfl)
theorem dL_law_50 : decode cL_law 50 = .ok (.iload 5, 2) := dk_21 5 (dk_at dksL_law_2 2 rfl rfl)
theorem dL_law_52 : decode cL_law 52 = .ok (.invokevirtual 32, 3) := dk_182 0 32 (dk_at dksL_law_2 4 rfl rfl)
theorem dL_law_55 : decode cL_law 55 = .ok (.aload 7, 2) := dk_25 7 (dk_at dksL_law_2 7 rfl rfl)
theorem dL_law_57 : decode cL_law 57 = .ok (.iload 5, 2) := dk_21 5 (dk_at dksL_law_2 9 rfl rfl)
theorem dL_law_59 : decode cL_law 59 = .ok (.invokevirtual 60, 3) := dk_182 0 60 (dk_at dksL_law_2 11 rfl rfl)
theorem dL_law_62 : decode cL_law 62 = .ok (.aload 6, 2) := dk_25 6 (dk_at dksL_law_2 14 rfl rfl)
theorem dL_law_64 : decode cL_law 64 = .ok (.invokevirtual 63, 3) := dk_182 0 63 (dk_at dksL_law_2 16 rfl rfl)
theorem dL_law_67 : decode cL_law 67 = .ok (.aload 6, 2) := dk_25 6 (dk_at dksL_law_2 19 rfl rfl)
theorem dL_law_69 : decode cL_law 69 = .ok (.iload 5, 2) := dk_21 5 (dk_at dksL_law_2 21 rfl rfl)
theorem dL_law_71 : decode cL_law 71 = .ok (.invokevirtual 60, 3) := dk_182 0 60 (dk_at dksL_law_3 0 rfl rfl)
theorem dL_law_74 : decode cL_law 74 = .ok (.aload 7, 2) := dk_25 7 (dk_at dksL_law_3 3 rfl rfl)
theorem dL_law_76 : decode cL_law 76 = .ok (.invokevirtual 63, 3) := dk_182 0 63 (dk_at dksL_law_3 5 rfl rfl)
theorem dL_law_79 : decode cL_law 79 = .ok (.aload 7, 2) := dk_25 7 (dk_at dksL_law_3 8 rfl rfl)
theorem dL_law_81 : decode cL_law 81 = .ok (.iload 5, 2) := dk_21 5 (dk_at dksL_law_3 10 rfl rfl)
theorem dL_law_83 : decode cL_law 83 = .ok (.invokevirtual 32, 3) := dk_182 0 32 (dk_at dksL_law_3 12 rfl rfl)
theorem dL_law_86 : decode cL_law 86 = .ok (.aload 6, 2) := dk_25 6 (dk_at dksL_law_3 15 rfl rfl)
theorem dL_law_88 : decode cL_law 88 = .ok (.aload_n 0, 1) := dk_42 (dk_at dksL_law_3 17 rfl rfl)
theorem dL_law_89 : decode cL_law 89 = .ok (.invokestatic 66, 3) := dk_184 0 66 (dk_at dksL_law_3 18 rfl rfl)
theorem dL_law_92 : decode cL_law 92 = .ok (.ifCond .eq 12, 3) := dk_153 0 12 (dk_at dksL_law_3 21 rfl rfl)
theorem dL_law_95 : decode cL_law 95 = .ok (.aload 7, 2) := dk_25 7 (dk_at dksL_law_4 0 rfl rfl)
theorem dL_law_97 : decode cL_law 97 = .ok (.aload_n 0, 1) := dk_42 (dk_at dksL_law_4 2 rfl rfl)
theorem dL_law_98 : decode cL_law 98 = .ok (.invokestatic 66, 3) := dk_184 0 66 (dk_at dksL_law_4 3 rfl rfl)
theorem dL_law_101 : decode cL_law 101 = .ok (.ifCond .ne 5, 3) := dk_154 0 5 (dk_at dksL_law_4 6 rfl rfl)
theorem dL_law_104 : decode cL_law 104 = .ok (.iconst 0, 1) := dk_3 (dk_at dksL_law_4 9 rfl rfl)
theorem dL_law_105 : decode cL_law 105 = .ok (.ireturn, 1) := dk_172 (dk_at dksL_law_4 10 rfl rfl)
theorem dL_law_106 : decode cL_law 106 = .ok (.iinc 4 1, 3) := dk_132 4 1 (dk_at dksL_law_4 11 rfl rfl)
theorem dL_law_109 : decode cL_law 109 = .ok (.goto (-85), 3) := dk_167 255 171 (dk_at dksL_law_4 14 rfl rfl)
theorem dL_law_112 : decode cL_law 112 = .ok (.iconst 1, 1) := dk_4 (dk_at dksL_law_4 17 rfl rfl)
theorem dL_law_113 : decode cL_law 113 = .ok (.ireturn, 1) := dk_172 (dk_at dksL_law_4 18 rfl rfl)
end
section
/-! SEED as plain functions (no program in sight), and its plain law: bytes to longs and back, the rounds forth and back.
The family 'Int32 by its bits' and 'a byte read unsigned' began as rows of kit/laws/BITS.to-paste -/
def bt (x : Int32) (i : Nat) : Bool := x.toBitVec.getLsbD i
theorem b_ext {x y : Int32} (h : ∀ i, i < 32 → bt x i = bt y i) : x = y := Int32.toBitVec_inj.mp (BitVec.eq_of_getLsbD_eq (fun i hi => h i hi))
theorem b_and (x y : Int32) (i : Nat) : bt (x &&& y) i = (bt x i && bt y i) := by unfold bt; rw [Int32.toBitVec_and, BitVec.getLsbD_and]
theorem b_big {x : Int32} {i : Nat} (h : 32 ≤ i) : bt x i = false := BitVec.getLsbD_of_ge _ _ h
theorem b_255 (i : Nat) : bt 255 i = decide (i < 8) := by
  rcases Nat.lt_or_ge i 32 with h | h
  · exact (by decide +kernel : ∀ i, i < 32 → bt 255 i = decide (i < 8)) i h
  · rw [b_big h, decide_eq_false (by omega)]
theorem s_l : ∀ n, n < 32 → ((nI n &&& 31).toBitVec.smod 32).toNat = n := by decide +kernel
theorem s_u : ∀ n, n < 32 → (((nI n).toUInt32 &&& Int32.toUInt32 31).toBitVec % 32).toNat = n := by decide +kernel
theorem b_ushr (n : Nat) (hn : n < 32) (x : Int32) (i : Nat) : bt ((x.toUInt32 >>> ((nI n).toUInt32 &&& Int32.toUInt32 31)).toInt32) i = bt x (n + i) := by
  show (x.toUInt32 >>> ((nI n).toUInt32 &&& Int32.toUInt32 31)).toBitVec.getLsbD i = x.toUInt32.toBitVec.getLsbD (n + i)
  rw [UInt32.toBitVec_shiftRight]
  show (x.toUInt32.toBitVec >>> (((nI n).toUInt32 &&& Int32.toUInt32 31).toBitVec % 32).toNat).getLsbD i = _
  rw [s_u n hn, BitVec.getLsbD_ushiftRight]
theorem b_sshr (n : Nat) (hn : n < 32) (x : Int32) {i : Nat} (hi : i < 32) : bt (x >>> (nI n &&& 31)) i = if n + i < 32 then bt x (n + i) else bt x 31 := by
  unfold bt
  rw [Int32.toBitVec_shiftRight]
  show (x.toBitVec.sshiftRight ((nI n &&& 31).toBitVec.smod 32).toNat).getLsbD i = _
  rw [s_l n hn, BitVec.getLsbD_sshiftRight, BitVec.msb_eq_getLsbD_last]
  simp [hi]
theorem bp_b (x : Int32) : x.toInt8.toInt32 &&& 255 = x &&& 255 := by
  apply Int32.toBitVec_inj.mp
  rw [Int32.toBitVec_and, Int32.toBitVec_and, Int8.toBitVec_toInt32, Int32.toBitVec_toInt8]
  apply BitVec.eq_of_getLsbD_eq
  intro i hi
  rw [BitVec.getLsbD_and, BitVec.getLsbD_and]
  have hm : ∀ i < 32, 8 ≤ i → (255 : Int32).toBitVec.getLsbD i = false := by decide
  rcases Nat.lt_or_ge i 8 with z | z
  · rw [BitVec.getLsbD_signExtend, BitVec.getLsbD_signExtend, if_pos z, if_pos hi]
    simp only [z, hi, decide_true, Bool.true_and]
  · rw [hm i hi z, Bool.and_false, Bool.and_false]
theorem bp_n (x : Int32) : vp_nar .byte x &&& 255 = x &&& 255 := by rw [vp_nar_byte, bp_b]
-- ===== the tables, out of two S-boxes =====
def sd_b1 : Nat := 0x9a2a6a9079051be833072962d4583a1688cdf0e45f6dea31b2e6f95e9fb1b9e3fa652bb546eda077564ad89c7f68dc3b554ebaaac1bc3ebe402d3d6fc248f134a4db6c9123428e0fb8d7cfc0673949ffc4825994f8dafb7589c711713ccecb359784e9814c45a7f438221536ae3730a1dfad8026e596477ad07eb30c8a92f502666b21061a4b2ede64fe1487c5f3efbf0a097c694d936ea2ab0e8bb0272f76fde1f753041900991f088d7d5241b4c361d5af12a678c65ab74f9eb60deba35060c986d19b8372e72cd9f2cc1098731c2401bd5b5c570b95ec74f6dd32a83f8c70eed213bb7b038fa517c8e2e09d20442863cafc511e18435d25ac1d54d3d685a9
def sd_b2 : Nat := 0xb74a3bce8f834cd9870a53cba424e737936984322639500e7cbbe4b63c659530fdc9da7eeb5258ed46004f251db254775f1b8c21821efc977948e5b09b8914854356a95e2af001fa05bde01240fe197609eab4d574c66d640310357f7570fb15cc7849f392f25a9f6eba2e0c3a9c9ec84d2363a1a25c7b96bf8dece31a470f81d0aba39adc9051dd59e6be61999ddb077168042202d720d1b16a8af531c17dffb986cd13c508ae57f818945de9ee0bd234aa2cca1f80adf78bac6773c041d44272f12f277a662bd8df0df9a53ef64e28988e3d3fd6e145c2f416c417a86c88ef4b36bc1c061191d3a7e2a029b53362c35b6b6f44c75560afb8b3decfa62de838
def sd_s1 (j : Nat) : Nat := (sd_b1 >>> (8 * j)) % 256
def sd_s2 (j : Nat) : Nat := (sd_b2 >>> (8 * j)) % 256
def sd_mx (a b c d s : Nat) : Int32 := Int32.ofNat ((s &&& a) * 16777216 + (s &&& b) * 65536 + (s &&& c) * 256 + (s &&& d))
def sd_t0 (j : Nat) : Int32 := sd_mx 0x3f 0xcf 0xf3 0xfc (sd_s1 j)
def sd_t1 (j : Nat) : Int32 := sd_mx 0xfc 0x3f 0xcf 0xf3 (sd_s2 j)
def sd_t2 (j : Nat) : Int32 := sd_mx 0xf3 0xfc 0x3f 0xcf (sd_s1 j)
def sd_t3 (j : Nat) : Int32 := sd_mx 0xcf 0xf3 0xfc 0x3f (sd_s2 j)
def sd_kc (j : Nat) : Int32 := Int32.ofNat ((0x9e3779b9 * 2 ^ j) % 4294967296 + 0x9e3779b9 / 2 ^ (32 - j))
-- ===== the functions, in the shape in which the code computes them =====
def sd_G (x : Int32) : Int32 := sd_t0 (x &&& 255).toNatClampNeg ^^^ sd_t1 ((x >>> (8 &&& 31)) &&& 255).toNatClampNeg ^^^ sd_t2 ((x >>> (16 &&& 31)) &&& 255).toNatClampNeg ^^^ sd_t3 ((x >>> (24 &&& 31)) &&& 255).toNatClampNeg
def sd_p1 (r0 k0 r1 k1 : Int32) : Int32 := sd_G (sd_G ((r0 ^^^ k0) ^^^ (r1 ^^^ k1)) + (r0 ^^^ k0))
def sd_p2 (r0 k0 r1 k1 : Int32) : Int32 := sd_G (sd_p1 r0 k0 r1 k1 + sd_G ((r0 ^^^ k0) ^^^ (r1 ^^^ k1)))
def sd_w0 (v : Int64) : Int32 := (v >>> ((32 : Int32).toInt64 &&& 63)).toInt32
def sd_w1 (v : Int64) : Int32 := v.toInt32
def sd_F (k0 k1 : Int32) (r : Int64) : Int64 := ((sd_p2 (sd_w0 r) k0 (sd_w1 r) k1 + sd_p1 (sd_w0 r) k0 (sd_w1 r) k1).toInt64 <<< ((32 : Int32).toInt64 &&& 63)) ||| ((sd_p2 (sd_w0 r) k0 (sd_w1 r) k1).toInt64 &&& 4294967295)
def sd_rL (x : Int64) : Int64 := (x <<< ((8 : Int32).toInt64 &&& 63)) ||| (x.toUInt64 >>> ((56 : Int32).toInt64.toUInt64 &&& Int64.toUInt64 63)).toInt64
def sd_rR (x : Int64) : Int64 := (x.toUInt64 >>> ((8 : Int32).toInt64.toUInt64 &&& Int64.toUInt64 63)).toInt64 ||| (x <<< ((56 : Int32).toInt64 &&& 63))
def sd_b2lN (f : Nat → Int32) (off : Nat) : Nat → Int64
  | 0 => 0
  | i + 1 => (sd_b2lN f off i <<< ((8 : Int32).toInt64 &&& 63)) + (f (i + off) &&& 255).toInt64
def sd_b2l (f : Nat → Int32) (off : Nat) : Int64 := sd_b2lN f off 8
def sd_by (v : Int64) (i : Nat) : Int32 := (v >>> (((7 - nI i) * 8).toInt64 &&& 63)).toInt32.toInt8.toInt32
def sd_l2b (f : Nat → Int32) (off : Nat) (v : Int64) (n : Nat) : Nat → Int32 := fun j => if off ≤ j ∧ j < off + n then sd_by v (j - off) else f j
/-- the key schedule's two longs, turned by i steps -/
def sd_ks (lo up : Int64) : Nat → Int64 × Int64
  | 0 => (lo, up)
  | i + 1 => if i % 2 = 0 then (sd_rR (sd_ks lo up i).1, (sd_ks lo up i).2) else ((sd_ks lo up i).1, sd_rL (sd_ks lo up i).2)
def sd_k0 (lo up : Int64) (i : Nat) : Int32 := sd_G (sd_w0 (sd_ks lo up i).1 + sd_w0 (sd_ks lo up i).2 - sd_kc i)
def sd_k1 (lo up : Int64) (i : Nat) : Int32 := sd_G (sd_w1 (sd_ks lo up i).1 - sd_w1 (sd_ks lo up i).2 + sd_kc i)
/-- the key array behind n steps -/
def sd_rk (lo up : Int64) (n : Nat) : Nat → Int32 := fun j => if j < 2 * n then (if j % 2 = 0 then sd_k0 lo up (j / 2) else sd_k1 lo up (j / 2)) else 0
def sd_key (kf : Nat → Int32) : Nat → Int32 := sd_rk (sd_b2l kf 0) (sd_b2l kf 8) 16
def sd_st (k : Nat → Int32) (i : Nat) (p : Int64 × Int64) : Int64 × Int64 := (p.2, p.1 ^^^ sd_F (k (2 * i)) (k (2 * i + 1)) p.2)
def sd_fw (k : Nat → Int32) : Nat → Int64 × Int64 → Int64 × Int64
  | 0, p => p
  | n + 1, p => sd_st k n (sd_fw k n p)
def sd_bw (k : Nat → Int32) : Nat → Int64 × Int64 → Int64 × Int64
  | 0, p => p
  | n + 1, p => sd_st k (15 - n) (sd_bw k n p)
def sd_in (f : Nat → Int32) : Int64 × Int64 := (sd_b2l f 0, sd_b2l f 8)
def sd_out (o : Nat → Int32) (p : Int64 × Int64) : Nat → Int32 := sd_l2b (sd_l2b o 0 p.2 8) 8 p.1 8
/-- one block: locked (true) or opened, into the array o -/
def sd_run (b : Bool) (kf blk o : Nat → Int32) : Nat → Int32 := sd_out o (if b = true then sd_fw (sd_key kf) 16 (sd_in blk) else sd_bw (sd_key kf) 16 (sd_in blk))
-- ===== bytes and longs =====
theorem sd_l2b_0 (f : Nat → Int32) (off : Nat) (v : Int64) : sd_l2b f off v 0 = f := by
  funext j
  unfold sd_l2b
  rw [if_neg (by omega)]
theorem sd_l2b_s (f : Nat → Int32) (off : Nat) (v : Int64) (n : Nat) : sd_l2b f off v (n + 1) = upd (sd_l2b f off v n) (n + off) (sd_by v n) := by
  funext j
  unfold sd_l2b upd
  dsimp only
  by_cases h : j = n + off
  · rw [if_pos (by omega), if_pos h, show j - off = n by omega]
  · rw [if_neg h]
    by_cases h2 : off ≤ j ∧ j < off + n
    · rw [if_pos (by omega), if_pos h2]
    · rw [if_neg (by omega), if_neg h2]
def sd_u (x : Int64) : Nat := x.toBitVec.toNat
theorem sd_u_lt (x : Int64) : sd_u x < 2 ^ 64 := x.toBitVec.isLt
theorem sd_u_inj {x y : Int64} (h : sd_u x = sd_u y) : x = y := Int64.toBitVec_inj.mp (BitVec.eq_of_toNat_eq h)
def sd_dg (x : Int32) : Nat := x.toBitVec.toNat % 256
theorem sd_dg_lt (x : Int32) : sd_dg x < 256 := Nat.mod_lt _ (by decide)
theorem sd_dg_and (x : Int32) : x &&& 255 = nI (sd_dg x) := pk_and x 8 (by decide)
theorem sd_dg_eq {x y : Int32} (h : x &&& 255 = y &&& 255) : sd_dg x = sd_dg y := by
  rw [sd_dg_and, sd_dg_and] at h
  have hx := sd_dg_lt x
  have hy := sd_dg_lt y
  exact (nI_eq (by omega) (by omega)).mp h
theorem sd_amt : ∀ i, i < 8 → ((((7 - nI i) * 8).toInt64 &&& 63).toBitVec.smod 64).toNat = 8 * (7 - i) := by decide +kernel
theorem sd_low (w : BitVec 64) (n : Nat) (hn : n ≤ 56) : (w.sshiftRight n).toNat % 256 = w.toNat / 2 ^ n % 256 := by
  have e : (w.sshiftRight n).setWidth 8 = (w >>> n).setWidth 8 := by
    apply BitVec.eq_of_getLsbD_eq
    intro i hi
    rw [BitVec.getLsbD_setWidth, BitVec.getLsbD_setWidth, BitVec.getLsbD_sshiftRight, BitVec.getLsbD_ushiftRight, if_pos (show n + i < 64 by omega), decide_eq_false (show ¬ 64 ≤ i by omega)]
    rfl
  have e2 := congrArg BitVec.toNat e
  rw [BitVec.toNat_setWidth, BitVec.toNat_setWidth, BitVec.toNat_ushiftRight, Nat.shiftRight_eq_div_pow] at e2
  exact e2
/-- the i-th byte of a long, read unsigned -/
theorem sd_by_dg (v : Int64) {i : Nat} (hi : i < 8) : sd_dg (sd_by v i) = sd_u v / 2 ^ (8 * (7 - i)) % 256 := by
  have h1 : sd_by v i &&& 255 = (v >>> (((7 - nI i) * 8).toInt64 &&& 63)).toInt32 &&& 255 := bp_b _
  rw [sd_dg_eq h1]
  unfold sd_dg
  rw [Int64.toBitVec_toInt32, BitVec.signExtend_eq_setWidth_of_le _ (by decide), BitVec.toNat_setWidth, Nat.mod_mod_of_dvd _ (by decide), Int64.toBitVec_shiftRight]
  show (v.toBitVec.sshiftRight ((((7 - nI i) * 8).toInt64 &&& 63).toBitVec.smod 64).toNat).toNat % 256 = _
  rw [sd_amt i hi, sd_low _ _ (by omega)]
  rfl
theorem sd_b2lN_u (f : Nat → Int32) (off i : Nat) : sd_u (sd_b2lN f off (i + 1)) = (sd_u (sd_b2lN f off i) * 256 + sd_dg (f (i + off))) % 2 ^ 64 := by
  have hd := sd_dg_lt (f (i + off))
  show sd_u ((sd_b2lN f off i <<< ((8 : Int32).toInt64 &&& 63)) + (f (i + off) &&& 255).toInt64) = _
  rw [sd_dg_and, nI_l (by omega)]
  generalize sd_b2lN f off i = x
  unfold sd_u
  rw [Int64.toBitVec_add, BitVec.toNat_add]
  have h1 : (x <<< ((8 : Int32).toInt64 &&& 63)).toBitVec.toNat = x.toBitVec.toNat * 256 % 2 ^ 64 := by
    rw [Int64.toBitVec_shiftLeft]
    show (x.toBitVec <<< (((8 : Int32).toInt64 &&& 63).toBitVec.smod 64).toNat).toNat = _
    rw [show (((8 : Int32).toInt64 &&& 63).toBitVec.smod 64).toNat = 8 by decide, BitVec.toNat_shiftLeft, Nat.shiftLeft_eq]
  have h2 : (lN (sd_dg (f (i + off)))).toBitVec.toNat = sd_dg (f (i + off)) := by
    show (BitVec.ofNat 64 _).toNat = _
    rw [BitVec.toNat_ofNat]
    exact Nat.mod_eq_of_lt (by omega)
  rw [h1, h2, Nat.mod_add_mod]
/-- eight bytes that are a long's bytes give the long -/
theorem sd_rt1 (f : Nat → Int32) (off : Nat) (v : Int64) (h : ∀ i, i < 8 → sd_dg (f (i + off)) = sd_u v / 2 ^ (8 * (7 - i)) % 256) : sd_b2l f off = v := by
  have key : ∀ n, n ≤ 8 → sd_u (sd_b2lN f off n) = sd_u v / 2 ^ (8 * (8 - n)) := by
    intro n
    induction n with
    | zero =>
      intro _
      have hv := sd_u_lt v
      rw [show 8 * (8 - 0) = 64 from rfl, Nat.div_eq_of_lt hv]
      rfl
    | succ n ih =>
      intro hn
      rw [sd_b2lN_u, ih (by omega), h n (by omega), show 8 * (8 - (n + 1)) = 8 * (7 - n) by omega, show 8 * (8 - n) = 8 * (7 - n) + 8 by omega, Nat.pow_add, ← Nat.div_div_eq_div_mul]
      have hv : sd_u v / 2 ^ (8 * (7 - n)) < 2 ^ 64 := Nat.lt_of_le_of_lt (Nat.div_le_self _ _) (sd_u_lt v)
      generalize sd_u v / 2 ^ (8 * (7 - n)) = z at hv ⊢
      omega
  apply sd_u_inj
  have h8 := key 8 (Nat.le_refl 8)
  rw [show 8 * (8 - 8) = 0 from rfl, Nat.pow_zero, Nat.div_one] at h8
  exact h8
/-- the bytes of the long that eight bytes give are those bytes -/
theorem sd_rt2 (f : Nat → Int32) (off : Nat) {i : Nat} (hi : i < 8) : sd_u (sd_b2l f off) / 2 ^ (8 * (7 - i)) % 256 = sd_dg (f (i + off)) := by
  have small : ∀ n, n ≤ 8 → sd_u (sd_b2lN f off n) < 2 ^ (8 * n) := by
    intro n
    induction n with
    | zero => intro _; exact (by decide : (0 : Nat) < 1)
    | succ n ih =>
      intro hn
      have h1 := ih (by omega)
      have hd := sd_dg_lt (f (n + off))
      rw [sd_b2lN_u]
      refine Nat.lt_of_le_of_lt (Nat.mod_le _ _) ?_
      rw [show 8 * (n + 1) = 8 * n + 8 by omega, Nat.pow_add]
      omega
  have step : ∀ n, n < 8 → sd_u (sd_b2lN f off (n + 1)) = sd_u (sd_b2lN f off n) * 256 + sd_dg (f (n + off)) := by
    intro n hn
    have h1 := small n (by omega)
    have hd := sd_dg_lt (f (n + off))
    have h2 : 2 ^ (8 * n) * 256 ≤ 2 ^ 64 := by
      rw [show (256 : Nat) = 2 ^ 8 from rfl, ← Nat.pow_add]
      exact Nat.pow_le_pow_right (by decide) (by omega)
    rw [sd_b2lN_u, Nat.mod_eq_of_lt (by omega)]
  have key : ∀ k, k ≤ 8 → sd_u (sd_b2lN f off 8) / 2 ^ (8 * k) = sd_u (sd_b2lN f off (8 - k)) := by
    intro k
    induction k with
    | zero => intro _; rw [Nat.mul_zero, Nat.pow_zero, Nat.div_one]
    | succ k ih =>
      intro hk
      have hd := sd_dg_lt (f (8 - (k + 1) + off))
      rw [show 8 * (k + 1) = 8 * k + 8 by omega, Nat.pow_add, ← Nat.div_div_eq_div_mul, ih (by omega), show 8 - k = 8 - (k + 1) + 1 by omega, step _ (by omega)]
      omega
  show sd_u (sd_b2lN f off 8) / 2 ^ (8 * (7 - i)) % 256 = _
  have hd := sd_dg_lt (f (i + off))
  rw [key (7 - i) (by omega), show 8 - (7 - i) = i + 1 by omega, step i hi]
  omega
theorem sd_b2l_congr {f g : Nat → Int32} (off : Nat) (h : ∀ i, i < 8 → f (i + off) &&& 255 = g (i + off) &&& 255) : sd_b2l f off = sd_b2l g off := by
  refine sd_rt1 f off _ (fun i hi => ?_)
  rw [sd_rt2 g off hi, sd_dg_eq (h i hi)]
theorem sd_in_congr {f g : Nat → Int32} (h : ∀ i, i < 16 → f i &&& 255 = g i &&& 255) : sd_in f = sd_in g := by
  unfold sd_in
  rw [sd_b2l_congr (f := f) (g := g) 0 (fun i hi => h _ (by omega)), sd_b2l_congr (f := f) (g := g) 8 (fun i hi => h _ (by omega))]
theorem sd_key_congr {f g : Nat → Int32} (h : ∀ i, i < 16 → f i &&& 255 = g i &&& 255) : sd_key f = sd_key g := by
  unfold sd_key
  rw [sd_b2l_congr (f := f) (g := g) 0 (fun i hi => h _ (by omega)), sd_b2l_congr (f := f) (g := g) 8 (fun i hi => h _ (by omega))]
theorem sd_out_lo (o : Nat → Int32) (p : Int64 × Int64) {j : Nat} (h : j < 8) : sd_out o p j = sd_by p.2 j := by
  unfold sd_out sd_l2b
  rw [if_neg (by omega), if_pos (by omega), Nat.sub_zero]
theorem sd_out_hi (o : Nat → Int32) (p : Int64 × Int64) {j : Nat} (h : j < 8) : sd_out o p (j + 8) = sd_by p.1 j := by
  unfold sd_out sd_l2b
  rw [if_pos (by omega), Nat.add_sub_cancel]
/-- what has been put out is read in again, the halves changed -/
theorem sd_in_out (o : Nat → Int32) (p : Int64 × Int64) : sd_in (sd_out o p) = (p.2, p.1) := by
  unfold sd_in
  rw [sd_rt1 (sd_out o p) 0 p.2 (fun i hi => by rw [Nat.add_zero, sd_out_lo o p hi, sd_by_dg _ hi]), sd_rt1 (sd_out o p) 8 p.1 (fun i hi => by rw [sd_out_hi o p hi, sd_by_dg _ hi])]
/-- what has been read in is put out again (the halves changed back) -/
theorem sd_out_in (o b : Nat → Int32) {j : Nat} (h : j < 16) : sd_out o ((sd_in b).2, (sd_in b).1) j &&& 255 = b j &&& 255 := by
  rw [sd_dg_and, sd_dg_and (b j)]
  rcases Nat.lt_or_ge j 8 with h8 | h8
  · rw [sd_out_lo _ _ h8, sd_by_dg _ h8]
    exact congrArg nI (sd_rt2 b 0 h8)
  · obtain ⟨i, rfl⟩ : ∃ i, j = i + 8 := ⟨j - 8, by omega⟩
    rw [sd_out_hi _ _ (by omega), sd_by_dg _ (by omega)]
    exact congrArg nI (sd_rt2 b 8 (by omega))
-- ===== the rounds forth and back =====
theorem sd_xx (a b : Int64) : (a ^^^ b) ^^^ b = a := by
  apply Int64.toBitVec_inj.mp
  rw [Int64.toBitVec_xor, Int64.toBitVec_xor, BitVec.xor_assoc, BitVec.xor_self, BitVec.xor_zero]
theorem sd_st_sw (k : Nat → Int32) (i : Nat) (q : Int64 × Int64) : sd_st k i ((sd_st k i q).2, (sd_st k i q).1) = (q.2, q.1) := by
  unfold sd_st
  rw [sd_xx]
theorem sd_back (k : Nat → Int32) (p : Int64 × Int64) : ∀ n, n ≤ 16 → sd_bw k n ((sd_fw k 16 p).2, (sd_fw k 16 p).1) = ((sd_fw k (16 - n) p).2, (sd_fw k (16 - n) p).1) := by
  intro n
  induction n with
  | zero => intro _; rfl
  | succ n ih =>
    intro hn
    show sd_st k (15 - n) (sd_bw k n _) = _
    rw [ih (by omega), show 16 - n = (15 - n) + 1 by omega, show 16 - (n + 1) = 15 - n by omega]
    exact sd_st_sw k (15 - n) (sd_fw k (15 - n) p)
theorem sd_forth (k : Nat → Int32) (p : Int64 × Int64) : ∀ n, n ≤ 16 → sd_fw k n ((sd_bw k 16 p).2, (sd_bw k 16 p).1) = ((sd_bw k (16 - n) p).2, (sd_bw k (16 - n) p).1) := by
  intro n
  induction n with
  | zero => intro _; rfl
  | succ n ih =>
    intro hn
    show sd_st k n (sd_fw k n _) = _
    rw [ih (by omega), show 16 - n = (15 - n) + 1 by omega, show 16 - (n + 1) = 15 - n by omega]
    have h := sd_st_sw k n (sd_bw k (15 - n) p)
    have e : sd_bw k (15 - n + 1) p = sd_st k n (sd_bw k (15 - n) p) := by
      show sd_st k (15 - (15 - n)) _ = _
      rw [show 15 - (15 - n) = n by omega]
    rw [e]
    exact h
/-- what again() leaves: the block is what came out -/
def sd_again (o b : Nat → Int32) (n : Nat) : Nat → Int32 := fun j => if j < n then vp_nar .byte (o j) else b j
theorem sd_again_s (o b : Nat → Int32) (n : Nat) : sd_again o b (n + 1) = upd (sd_again o b n) n (vp_nar .byte (o n)) := by
  funext j
  unfold sd_again upd
  dsimp only
  by_cases h : j = n
  · rw [if_pos (by omega), if_pos h, h]
  · rw [if_neg h]
    by_cases h2 : j < n
    · rw [if_pos (by omega), if_pos h2]
    · rw [if_neg (by omega), if_neg h2]
theorem sd_again_0 (o b : Nat → Int32) : sd_again o b 0 = b := by
  funext j
  unfold sd_again
  rw [if_neg (by omega)]
theorem sd_again_in (o b : Nat → Int32) : sd_in (sd_again o b 16) = sd_in o := sd_in_congr (fun i hi => by
  unfold sd_again
  rw [if_pos hi, bp_n])
/-- THE LAW, plain: opened what was locked, locked what was opened, under one key -/
theorem sd_law (b : Bool) (kf blk o1 o2 : Nat → Int32) {j : Nat} (h : j < 16) : sd_run (!b) kf (sd_again (sd_run b kf blk o1) blk 16) o2 j &&& 255 = blk j &&& 255 := by
  have main : ∀ q : Int64 × Int64, sd_in (sd_again (sd_out o1 q) blk 16) = (q.2, q.1) := fun q => by rw [sd_again_in, sd_in_out]
  cases b with
  | true =>
    show sd_out o2 (sd_bw (sd_key kf) 16 (sd_in (sd_again (sd_out o1 (sd_fw (sd_key kf) 16 (sd_in blk))) blk 16))) j &&& 255 = _
    rw [main, sd_back _ _ 16 (Nat.le_refl 16)]
    exact sd_out_in o2 blk h
  | false =>
    show sd_out o2 (sd_fw (sd_key kf) 16 (sd_in (sd_again (sd_out o1 (sd_bw (sd_key kf) 16 (sd_in blk))) blk 16))) j &&& 255 = _
    rw [main, sd_forth _ _ 16 (Nat.le_refl 16)]
    exact sd_out_in o2 blk h
-- ===== words of four bytes =====
def sd_wd (f : Nat → Int32) (at_ : Nat) (w : Int32) : Nat → Int32 := upd (upd (upd (upd f at_ (w >>> (24 &&& 31)).toInt8.toInt32) (at_ + 1) (w >>> (16 &&& 31)).toInt8.toInt32) (at_ + 2) (w >>> (8 &&& 31)).toInt8.toInt32) (at_ + 3) w.toInt8.toInt32
def sd_4w (f : Nat → Int32) (at_ : Nat) (a b c d : Int32) : Nat → Int32 := sd_wd (sd_wd (sd_wd (sd_wd f at_ a) (at_ + 4) b) (at_ + 8) c) (at_ + 12) d
/-- the byte of a word that the law asks for -/
def sd_wb (w : Int32) (r : Nat) : Int32 := (w.toUInt32 >>> ((nI (24 - 8 * r)).toUInt32 &&& Int32.toUInt32 31)).toInt32 &&& 255
theorem sd_sh (w : Int32) (n : Nat) (hn : n ≤ 24) : (w >>> (nI n &&& 31)).toInt8.toInt32 &&& 255 = (w.toUInt32 >>> ((nI n).toUInt32 &&& Int32.toUInt32 31)).toInt32 &&& 255 := by
  rw [bp_b]
  apply b_ext
  intro i hi
  rw [b_and, b_and, b_255, b_sshr n (by omega) w hi, b_ushr n (by omega)]
  by_cases h : i < 8
  · rw [if_pos (by omega)]
  · rw [decide_eq_false h, Bool.and_false, Bool.and_false]
theorem sd_sh0 (w : Int32) : w.toInt8.toInt32 &&& 255 = sd_wb w 3 := by
  rw [bp_b]
  show _ = (w.toUInt32 >>> ((nI 0).toUInt32 &&& Int32.toUInt32 31)).toInt32 &&& 255
  apply b_ext
  intro i hi
  rw [b_and, b_and, b_ushr 0 (by omega), Nat.zero_add]
theorem sd_wd_at (f : Nat → Int32) (at_ : Nat) (w : Int32) {r : Nat} (hr : r < 4) : sd_wd f at_ w (at_ + r) &&& 255 = sd_wb w r := by
  match r, hr with
  | 0, _ =>
    have e : sd_wd f at_ w (at_ + 0) = (w >>> (24 &&& 31)).toInt8.toInt32 := by
      unfold sd_wd upd
      rw [if_neg (by omega), if_neg (by omega), if_neg (by omega), if_pos (by omega)]
    rw [e]
    exact sd_sh w 24 (by omega)
  | 1, _ =>
    have e : sd_wd f at_ w (at_ + 1) = (w >>> (16 &&& 31)).toInt8.toInt32 := by
      unfold sd_wd upd
      rw [if_neg (by omega), if_neg (by omega), if_pos (by omega)]
    rw [e]
    exact sd_sh w 16 (by omega)
  | 2, _ =>
    have e : sd_wd f at_ w (at_ + 2) = (w >>> (8 &&& 31)).toInt8.toInt32 := by
      unfold sd_wd upd
      rw [if_neg (by omega), if_pos (by omega)]
    rw [e]
    exact sd_sh w 8 (by omega)
  | 3, _ =>
    have e : sd_wd f at_ w (at_ + 3) = w.toInt8.toInt32 := by
      unfold sd_wd upd
      rw [if_pos (by omega)]
    rw [e]
    exact sd_sh0 w
theorem sd_wd_off (f : Nat → Int32) (at_ : Nat) (w : Int32) {j : Nat} (h : j < at_ ∨ at_ + 4 ≤ j) : sd_wd f at_ w j = f j := by
  unfold sd_wd upd
  rw [if_neg (by omega), if_neg (by omega), if_neg (by omega), if_neg (by omega)]
/-- a block of four words, byte by byte -/
theorem sd_4w_at (f : Nat → Int32) (g : Nat → Int32) {j : Nat} (h : j < 16) : sd_4w f 0 (g 0) (g 1) (g 2) (g 3) j &&& 255 = sd_wb (g (j / 4)) (j % 4) := by
  unfold sd_4w
  have hr : j % 4 < 4 := Nat.mod_lt _ (by decide)
  have hj : j = 4 * (j / 4) + j % 4 := by omega
  have hq : j / 4 < 4 := by omega
  generalize j % 4 = r at hr hj
  generalize j / 4 = q at hq hj
  subst hj
  match q, hq with
  | 0, _ =>
    rw [sd_wd_off _ _ _ (by omega), sd_wd_off _ _ _ (by omega), sd_wd_off _ _ _ (by omega)]
    exact sd_wd_at f 0 (g 0) hr
  | 1, _ =>
    rw [sd_wd_off _ _ _ (by omega), sd_wd_off _ _ _ (by omega)]
    exact sd_wd_at _ 4 (g 1) hr
  | 2, _ =>
    rw [sd_wd_off _ _ _ (by omega)]
    exact sd_wd_at _ 8 (g 2) hr
  | 3, _ => exact sd_wd_at _ 12 (g 3) hr
end
section
/-! THE FOUR PUBLISHED VECTORS: each round with what it computes, checked by one evaluation (printed by mkknown.py) -/
/-- a round's certificate: its two keys, the schedule's longs behind it, the three answers of G, the new right half -/
abbrev kn_E : Type := Int32 × Int32 × Int64 × Int64 × Int32 × Int32 × Int32 × Int64
def kn_ck : Nat → Int64 → Int64 → Int64 → Int64 → List kn_E → Bool
  | _, _, _, _, _, [] => true
  | i, lo, up, a, b, (k0, k1, lo1, up1, g, p, q, b1) :: t =>
    decide (sd_G (sd_w0 lo + sd_w0 up - sd_kc i) = k0) && (decide (sd_G (sd_w1 lo - sd_w1 up + sd_kc i) = k1) && (decide ((if i % 2 = 0 then sd_rR lo else lo) = lo1) && (decide ((if i % 2 = 0 then up else sd_rL up) = up1) &&
    (decide (sd_G ((sd_w0 b ^^^ k0) ^^^ (sd_w1 b ^^^ k1)) = g) && (decide (sd_G (g + (sd_w0 b ^^^ k0)) = p) && (decide (sd_G (p + g) = q) && (decide ((a ^^^ (((q + p).toInt64 <<< ((32 : Int32).toInt64 &&& 63)) ||| (q.toInt64 &&& 4294967295))) = b1) && kn_ck (i + 1) lo1 up1 b b1 t)))))))
def kn_end : Int64 → Int64 → List kn_E → Int64 × Int64
  | a, b, [] => (a, b)
  | _, b, e :: t => kn_end b e.2.2.2.2.2.2.2 t
theorem kn_ok (LO UP : Int64) (P : Int64 × Int64) : ∀ (t : List kn_E) (i : Nat) (lo up a b : Int64), sd_ks LO UP i = (lo, up) → sd_fw (sd_rk LO UP 16) i P = (a, b) → i + t.length = 16 → kn_ck i lo up a b t = true → sd_fw (sd_rk LO UP 16) 16 P = kn_end a b t := by
  intro t
  induction t with
  | nil =>
    intro i lo up a b _ hf hi _
    have hi : i = 16 := hi
    rw [hi] at hf
    exact hf
  | cons e t ih =>
    intro i lo up a b hs hf hi hc
    obtain ⟨k0, k1, lo1, up1, g, p, q, b1⟩ := e
    have hi1 : i + 1 + t.length = 16 := by rw [List.length_cons] at hi; omega
    simp only [kn_ck, Bool.and_eq_true, decide_eq_true_eq] at hc
    obtain ⟨h1, h2, h3, h4, h5, h6, h7, h8, h9⟩ := hc
    have hk0 : sd_rk LO UP 16 (2 * i) = k0 := by
      unfold sd_rk
      rw [if_pos (by omega), if_pos (by omega), show 2 * i / 2 = i by omega]
      unfold sd_k0
      rw [hs]
      exact h1
    have hk1 : sd_rk LO UP 16 (2 * i + 1) = k1 := by
      unfold sd_rk
      rw [if_pos (by omega), if_neg (by omega), show (2 * i + 1) / 2 = i by omega]
      unfold sd_k1
      rw [hs]
      exact h2
    refine ih (i + 1) lo1 up1 b b1 ?_ ?_ hi1 h9
    · show (if i % 2 = 0 then (sd_rR (sd_ks LO UP i).1, (sd_ks LO UP i).2) else ((sd_ks LO UP i).1, sd_rL (sd_ks LO UP i).2)) = (lo1, up1)
      rw [hs, ← h3, ← h4]
      by_cases hz : i % 2 = 0
      · rw [if_pos hz, if_pos hz, if_pos hz]
      · rw [if_neg hz, if_neg hz, if_neg hz]
    · show sd_st (sd_rk LO UP 16) i (sd_fw (sd_rk LO UP 16) i P) = (b, b1)
      rw [hf]
      show (b, a ^^^ sd_F (sd_rk LO UP 16 (2 * i)) (sd_rk LO UP 16 (2 * i + 1)) b) = (b, b1)
      rw [hk0, hk1]
      have hp : sd_p1 (sd_w0 b) k0 (sd_w1 b) k1 = p := by
        unfold sd_p1
        rw [h5, h6]
      have hq : sd_p2 (sd_w0 b) k0 (sd_w1 b) k1 = q := by
        unfold sd_p2
        rw [hp, h5, h7]
      unfold sd_F
      rw [hp, hq, h8]
def kn_z : Nat → Int32 := fun _ => 0
/-- what the law's known() owes of one vector: the array of bytes owed -/
def kn_owes (kf blk : Nat → Int32) (v : Nat → Int32) : Prop := ∀ (o : Nat → Int32) (j : Nat), j < 16 → sd_run true kf blk o j &&& 255 = v j
theorem kn_of {kf blk v : Nat → Int32} (LO UP a b : Int64) (t : List kn_E) (h1 : sd_b2l kf 0 = LO) (h2 : sd_b2l kf 8 = UP) (h3 : sd_b2l blk 0 = a) (h4 : sd_b2l blk 8 = b) (hl : t.length = 16) (hc : kn_ck 0 LO UP a b t = true)
    (hv : ∀ j, j < 8 → sd_by (kn_end a b t).2 j &&& 255 = v j ∧ sd_by (kn_end a b t).1 j &&& 255 = v (j + 8)) : kn_owes kf blk v := by
  intro o j hj
  have hk : sd_key kf = sd_rk LO UP 16 := by
    unfold sd_key
    rw [h1, h2]
  have hi : sd_in blk = (a, b) := by
    unfold sd_in
    rw [h3, h4]
  show sd_out o (sd_fw (sd_key kf) 16 (sd_in blk)) j &&& 255 = _
  rw [hk, hi, kn_ok LO UP (a, b) t 0 LO UP a b rfl rfl (by rw [hl]) hc]
  rcases Nat.lt_or_ge j 8 with h | h
  · rw [sd_out_lo _ _ h]
    exact (hv j h).1
  · obtain ⟨i, rfl⟩ : ∃ i, j = i + 8 := ⟨j - 8, by omega⟩
    rw [sd_out_hi _ _ (by omega)]
    exact (hv i (by omega)).2

def kn_t0 : List kn_E := [(2089782398, 3342311980, 0, 0, 1065292271, 3213963836, 3236924440, 9259889394002332191), (4280773851, 2815060042, 0, 0, 2866430976, 1044053729, 3677913643, 1259471911595117604), (798818721, 1879350849, 0, 0, 2529632003, 2586177556, 3083616431, 15092561345463634608), (2925114308, 1111877900, 0, 0, 3760348820, 2102560162, 3367092168, 6304703496440787948), (2715172879, 3686873422, 0, 0, 3794089761, 2448855502, 2928041073, 10452681750447429313), (2241213704, 207560651, 0, 0, 875548690, 238341381, 2935958228, 16883214026316388664), (3062152615, 1638182574, 0, 0, 1322521963, 3603526855, 1249366765, 12704132416480429100), (3514697537, 4276685473, 0, 0, 1376180155, 1027371725, 350459198, 13289332774626954246), (1993082325, 3917116308, 0, 0, 207687078, 1899929476, 2936549404, 10378803448289129520), (1353478034, 455501541, 0, 0, 461799925, 2584858869, 4051139434, 3739251993075513196), (1706528842, 2395187123, 0, 0, 1609048018, 1946217169, 2279621562, 7775961962457806730), (796798498, 2729517497, 0, 0, 3706567871, 870869827, 1464851039, 13320583654034910515), (1292631524, 1317571995, 0, 0, 3668617978, 3839971458, 682551361, 7384211204380680139), (1662815708, 1131980484, 0, 0, 4166635393, 4279357033, 2743837031, 1891889605736369236), (560658015, 2021179441, 0, 0, 1873663750, 2234538539, 4205163280, 1850963832180337883), (1904808272, 2561824176, 0, 0, 325977708, 2677405494, 2774899260, 6825986850697385576)]
def kn_k0 : Nat → Int32 := sd_4w (sd_4w kn_z 0 0 0 0 0) 16 0 0 0 0
def kn_b0 : Nat → Int32 := sd_4w kn_z 0 66051 67438087 134810123 202182159
/-- the bytes owed, as the code puts them into its array -/
def kn_v0 : Nat → Int32 := upd (upd (upd (upd (upd (upd (upd (upd (upd (upd (upd (upd (upd (upd (upd (upd kn_z 0 94) 1 186) 2 198) 3 224) 4 5) 5 78) 6 22) 7 104) 8 25) 9 175) 10 241) 11 204) 12 109) 13 52) 14 108) 15 219
set_option maxRecDepth 100000 in
theorem kn_0 : kn_owes kn_k0 kn_b0 kn_v0 := kn_of 0 0 283686952306183 579005069656919567 kn_t0 (by decide +kernel) (by decide +kernel) (by decide +kernel) (by decide +kernel) rfl (by decide +kernel) (by decide +kernel)
def kn_t1 : List kn_E := [(3239703940, 1524642720, 504404266417652998, 579005069656919567, 3951096169, 208579091, 2434731033, 11352930538200435737), (1653896080, 2785062164, 504404266417652998, 651345242494996232, 3661839394, 3597525727, 1253357496, 2387640727043880888), (4143338574, 1500269385, 434315893393261573, 651345242494996232, 152733551, 2938602268, 411205388, 6496358919086895893), (3248741890, 3460840521, 434315893393261573, 723685415333070857, 1236712253, 2830090383, 4038739026, 13279037734066779114), (1584672365, 2116359741, 361984516648207108, 723685415333070857, 3790232851, 2789564044, 3091139745, 334356165374934964), (2191119028, 2030716622, 361984516648207108, 796025588170623242, 2927630349, 422555775, 1000659274, 17049528400599460512), (3932674102, 1442010354, 289644378169868803, 796025588170623242, 1579283881, 1324625304, 4228932620, 5739642621055343544), (3295881723, 4111316532, 289644378169868803, 868365760874482187, 404177499, 1724708551, 3470495354, 15651296225971512538), (735248949, 1365744870, 217304205466009858, 868365760874482187, 1731034472, 2588143921, 1688415267, 12772300737532213147), (4203572086, 2851307010, 217304205466009858, 940705899352820492, 3838452797, 214954967, 1987363409, 6516749163303364235), (2342112352, 257987284, 144964032628457473, 940705899352820492, 1484960962, 4132328181, 3670969582, 6943578908178496373), (3182361850, 1218191938, 144964032628457473, 1013037276097874957, 2850603538, 294198499, 147779340, 4622996940190878087), (4130700308, 3486298406, 72623859790382848, 1013037276097874957, 3807893266, 1096448753, 1212824993, 16859283102220256980), (2695523717, 4173399924, 72623859790382848, 1083125649122266382, 5324273, 3278965907, 1205276895, 5431396450294339928), (1207238341, 893051322, 283686952306183, 1083125649122266382, 206794311, 2383247272, 3751971223, 9531927537814802243), (4274842184, 2767167387, 283686952306183, 579005069656919567, 1465337142, 321013681, 2002569480, 13915879796396544080)]
def kn_k1 : Nat → Int32 := sd_4w (sd_4w kn_z 0 66051 67438087 134810123 202182159) 16 0 0 0 0
def kn_b1 : Nat → Int32 := sd_4w kn_z 0 0 0 0 0
/-- the bytes owed, as the code puts them into its array -/
def kn_v1 : Nat → Int32 := upd (upd (upd (upd (upd (upd (upd (upd (upd (upd (upd (upd (upd (upd (upd (upd kn_z 0 193) 1 31) 2 34) 3 242) 4 1) 5 64) 6 80) 7 80) 8 132) 9 72) 10 53) 11 151) 12 228) 13 55) 14 15) 15 67
set_option maxRecDepth 100000 in
theorem kn_1 : kn_owes kn_k1 kn_b1 kn_v1 := kn_of 283686952306183 579005069656919567 0 0 kn_t1 (by decide +kernel) (by decide +kernel) (by decide +kernel) (by decide +kernel) rfl (by decide +kernel) (by decide +kernel)
def kn_t2 : List kn_E := [(1455311375, 3925223543, 16737353446592734747, 6734218122600210821, 1656513779, 799681105, 3483164255, 8999863391677366758), (1757197932, 126423517, 16737353446592734747, 8412640530665669981, 587286743, 3197362210, 1334595786, 12306531423059135671), (1535276043, 4247048347, 2010935325924807142, 8412640530665669981, 2500891811, 1073038583, 50485270, 4472757361001011696), (2371911701, 2703286462, 2010935325924807142, 13813663300103527796, 2019893329, 3229662506, 4214765851, 1256895059067368876), (2164946350, 468853733, 16581101844840319057, 13813663300103527796, 553594204, 237903957, 4272803387, 3659600825545086923), (4190163664, 258436098, 16581101844840319057, 12969686747978757311, 2656201247, 307843171, 1412963998, 8637917712416205618), (2409323652, 2323418589, 5901435046153570312, 12969686747978757311, 3861606972, 2845177829, 1680489107, 4542357377327656280), (3567995030, 417936455, 5901435046153570312, 18272618288552132531, 3231672454, 684591191, 522209399, 3462807052210873157), (3473477457, 1514963458, 599513232952460872, 18272618288552132531, 3648457676, 384831127, 2475507081, 10769511710117089489), (1321408879, 1639031004, 599513232952460872, 10764031220829369341, 2741062125, 3729997837, 3002943160, 11627971459841943037), (609093569, 3503360786, 5190488619297031942, 10764031220829369341, 488359557, 1956361111, 2511443902, 11473402198793242479), (1771142252, 2147045299, 5190488619297031942, 7027125549595360661, 1483280946, 2888731346, 2746674450, 17202534017437829359), (2591995010, 1916491576, 452620910396696647, 7027125549595360661, 874793237, 1951096319, 1722518989, 5030341901587991202), (3111461573, 969696073, 452620910396696647, 9609965546585822561, 1753556081, 805262370, 2098003822, 4879648116367193985), (4290949077, 336783153, 5117857227124120552, 9609965546585822561, 2783598806, 3580253810, 2453555176, 2480290511216446794), (2846847553, 2749789017, 5117857227124120552, 6734218122600210821, 2388006599, 2911708985, 5638124, 17173581346454270061)]
def kn_k2 : Nat → Int32 := sd_4w (sd_4w kn_z 0 1191593992 1374034920 1567932339 (-40541819)) 16 0 0 0 0
def kn_b2 : Nat → Int32 := sd_4w kn_z 0 (-2086471518) (-2006704199) (-1528191540) 789781629
/-- the bytes owed, as the code puts them into its array -/
def kn_v2 : Nat → Int32 := upd (upd (upd (upd (upd (upd (upd (upd (upd (upd (upd (upd (upd (upd (upd (upd kn_z 0 238) 1 84) 2 209) 3 62) 4 188) 5 174) 6 112) 7 109) 8 34) 9 107) 10 195) 11 20) 12 44) 13 212) 14 13) 15 74
set_option maxRecDepth 100000 in
theorem kn_2 : kn_owes kn_k2 kn_b2 kn_v2 := kn_of 5117857227124120552 6734218122600210821 9485417142152339385 11883211388175457405 kn_t2 (by decide +kernel) (by decide +kernel) (by decide +kernel) (by decide +kernel) rfl (by decide +kernel) (by decide +kernel)
def kn_t3 : List kn_E := [(2997951331, 787079889, 9018699887533490136, 14962375993313078247, 2011015265, 3636022887, 3598076590, 1959614456591679674), (295072352, 1906716452, 9018699887533490136, 11892231030270846927, 1964170407, 1209769239, 1942423341, 3876554468962818538), (771848794, 903534503, 15599669608628111871, 11892231030270846927, 2437428030, 960344032, 2472341885, 15540606931709391303), (455783935, 2746066591, 15599669608628111871, 698371587260796837, 2722492283, 2133070867, 2461777029, 2599590016250340719), (1369217283, 3666914030, 18435622689080327241, 698371587260796837, 2142920762, 4163998910, 4207832189, 2642296390520970682), (704484781, 3108781843, 18435622689080327241, 12762429675378025737, 481535531, 4269170561, 3448787275, 16723318508918715428), (1868733721, 2328783151, 5332218515897959356, 12762429675378025737, 2983428111, 3741258818, 2808557440, 11731051656629695034), (815951475, 790770574, 5332218515897959356, 2108295850183952817, 4137868882, 2493343242, 2532688661, 14088949085086512945), (2535524154, 2565770670, 13567656657708178371, 2108295850183952817, 3964537822, 3364896614, 1919171400, 10968917103977924978), (3315050665, 668785815, 13567656657708178371, 4768159509514924317, 4011873844, 835530406, 4076732128, 16667027330125302225), (4111874560, 1610416131, 14104229496215120091, 4768159509514924317, 579437008, 1625888464, 1358468478, 3015379525656058892), (1555981786, 2805203940, 14104229496215120091, 3163725570990218562, 3937854906, 1618856198, 3274569417, 14188189041537941272), (2103242864, 490438802, 15835707740775808296, 3163725570990218562, 560171724, 2008816832, 2394642419, 3436161854882991103), (948727851, 464144709, 15835707740775808296, 16703751003985232427, 1581641610, 523214670, 2228470896, 6982252313631439720), (2278665050, 4195613532, 2944161994879522941, 16703751003985232427, 3196467371, 3349244475, 2869107421, 6704511951072874786), (3380444909, 2423409262, 2944161994879522941, 14962375993313078247, 4085801300, 1943470767, 2275903441, 11212692023045864633)]
def kn_k3 : Nat → Int32 := sd_4w (sd_4w kn_z 0 685491132 1241503869 (-811267663) 490875879) 16 0 0 0 0
def kn_b3 : Nat → Int32 := sd_4w kn_z 0 (-1273074718) (-341292524) (-1909527164) 1497128647
/-- the bytes owed, as the code puts them into its array -/
def kn_v3 : Nat → Int32 := upd (upd (upd (upd (upd (upd (upd (upd (upd (upd (upd (upd (upd (upd (upd (upd kn_z 0 155) 1 155) 2 123) 3 252) 4 209) 5 129) 6 60) 7 185) 8 93) 9 11) 10 54) 11 24) 12 244) 13 15) 14 81) 15 34
set_option maxRecDepth 100000 in
theorem kn_3 : kn_owes kn_k3 kn_b3 kn_v3 := kn_of 2944161994879522941 14962375993313078247 12978929798488803860 10245387355003051719 kn_t3 (by decide +kernel) (by decide +kernel) (by decide +kernel) (by decide +kernel) rfl (by decide +kernel) (by decide +kernel)
end
section
/-! The worlds of this claim: the three classes, the two array classes, the five static tables; a method's start, a call, a loop -/
abbrev sCl : List vw_C := [(RX1, TX1, 3), (RX2, TX2, 3), (RX3, TX3, 1)]
abbrev tyBI (cB cI : ClassId) : List (ClassId × FieldType) := [(cB, .byte), (cI, .int)]
-- ===== the static tables =====
def ts_T (n : String) (N : Nat) (f : Nat → Int32) (A : Nat → Prop) (U : State) (H : Heap) : Prop := ∃ t : Nat, va_Z RX2 n "[I" (.ref t) A U H ∧ va_T .int t N (fun j => .int (f j)) A U H
theorem ts_moved {n : String} {N : Nat} {f : Nat → Int32} {A : Nat → Prop} {u U : State} {H : Heap} (hvm : u.vm.Alike U.vm) (h : ts_T n N f A u H) : ts_T n N f A U H := by
  obtain ⟨t, h1, h2⟩ := h
  exact ⟨t, va_Z.moved hvm h1, va_T.moved hvm h2⟩
theorem ts_kept {n : String} {N : Nat} {f : Nat → Int32} {A : Nat → Prop} {U : State} {H H1 : Heap} (h : ts_T n N f A U H) (hq : ∀ a : Nat, a < H.size → ¬ A a → H1[a]? = H[a]?) : ts_T n N f A U H1 := by
  obtain ⟨t, h1, h2⟩ := h
  exact ⟨t, h1.kept hq, h2.kept hq⟩
theorem ts_narrow {n : String} {N : Nat} {f : Nat → Int32} {A B : Nat → Prop} {U : State} {H : Heap} (h : ts_T n N f A U H) (hAB : ∀ q, B q → A q) : ts_T n N f B U H := by
  obtain ⟨t, h1, h2⟩ := h
  exact ⟨t, h1.narrow hAB, h2.narrow hAB⟩
def tb_ (A : Nat → Prop) (U : State) (H : Heap) : Prop := ts_T "SS0" 256 sd_t0 A U H ∧ ts_T "SS1" 256 sd_t1 A U H ∧ ts_T "SS2" 256 sd_t2 A U H ∧ ts_T "SS3" 256 sd_t3 A U H ∧ ts_T "KC" 16 sd_kc A U H
theorem tb_moved {A : Nat → Prop} {u U : State} {H : Heap} (hvm : u.vm.Alike U.vm) (h : tb_ A u H) : tb_ A U H := ⟨ts_moved hvm h.1, ts_moved hvm h.2.1, ts_moved hvm h.2.2.1, ts_moved hvm h.2.2.2.1, ts_moved hvm h.2.2.2.2⟩
theorem tb_kept {A : Nat → Prop} {U : State} {H H1 : Heap} (h : tb_ A U H) (hq : ∀ a : Nat, a < H.size → ¬ A a → H1[a]? = H[a]?) : tb_ A U H1 := ⟨ts_kept h.1 hq, ts_kept h.2.1 hq, ts_kept h.2.2.1 hq, ts_kept h.2.2.2.1 hq, ts_kept h.2.2.2.2 hq⟩
theorem tb_narrow {A B : Nat → Prop} {U : State} {H : Heap} (h : tb_ A U H) (hAB : ∀ q, B q → A q) : tb_ B U H := ⟨ts_narrow h.1 hAB, ts_narrow h.2.1 hAB, ts_narrow h.2.2.1 hAB, ts_narrow h.2.2.2.1 hAB, ts_narrow h.2.2.2.2 hAB⟩
/-- the tables, where a method of ours stands now -/
theorem tb_here {A B : Nat → Prop} {s : State} {H : Heap} {locs : List Loc} (h : tb_ A s s.heap) (hS : va_S A s.heap H locs) (hAB : ∀ q, B q → A q) : tb_ B s H := tb_narrow (tb_kept h hS.2.1) hAB
abbrev nn_ : Nat → Prop := fun _ => False
-- ===== a pure method's start: it only reads =====
def pu_ (D : va_G) (ws : va_W) (tys : List (ClassId × FieldType)) : State → Prop := fun U => va_P D sCl ws U.heap ∧ va_K D sCl tys U
theorem pu_blind {av : List Value} {D : va_G} {ws : va_W} {tys : List (ClassId × FieldType)} : FrameBlind (va_Pc av (pu_ D ws tys)) := fun a U g mk q => ⟨q.1, q.2.1, va_K.moved (u := U) (U := U.calling g mk a) (Vm.Alike.refl U.vm) q.2.2⟩
theorem pu_at {av : List Value} {D : va_G} {ws : va_W} {tys : List (ClassId × FieldType)} {s : State} {H : Heap} (hP : va_P D sCl ws H) (hK : va_K D sCl tys s) : ∀ U : State, U.heap = H → s.WarmedH U.vm → va_Pc av (pu_ D ws tys) av.toArray U :=
  fun U hU hW => ⟨rfl, by rw [hU]; exact hP, va_K.moved hW.alike hK⟩
/-- the same with the tables -/
def pt_ (D : va_G) (ws : va_W) (tys : List (ClassId × FieldType)) : State → Prop := fun U => va_P D sCl ws U.heap ∧ va_K D sCl tys U ∧ tb_ nn_ U U.heap
theorem pt_blind {av : List Value} {D : va_G} {ws : va_W} {tys : List (ClassId × FieldType)} : FrameBlind (va_Pc av (pt_ D ws tys)) := fun a U g mk q => ⟨q.1, q.2.1, va_K.moved (u := U) (U := U.calling g mk a) (Vm.Alike.refl U.vm) q.2.2.1, tb_moved (u := U) (U := U.calling g mk a) (Vm.Alike.refl U.vm) q.2.2.2⟩
theorem pt_at {av : List Value} {D : va_G} {ws : va_W} {tys : List (ClassId × FieldType)} {s : State} {H : Heap} (hP : va_P D sCl ws H) (hK : va_K D sCl tys s) (hT : tb_ nn_ s H) : ∀ U : State, U.heap = H → s.WarmedH U.vm → va_Pc av (pt_ D ws tys) av.toArray U :=
  fun U hU hW => ⟨rfl, by rw [hU]; exact hP, va_K.moved hW.alike hK, by rw [hU]; exact tb_moved hW.alike hT⟩
-- ===== the start of a method that writes or makes cells =====
def px_ (D : va_G) (ws : va_W) (tys : List (ClassId × FieldType)) (sz : Nat) : State → Prop := fun U => U.heap.size = sz ∧ va_P D sCl ws U.heap ∧ va_K D sCl tys U ∧ va_D (fun _ => True) ws
theorem px_blind {av : List Value} {D : va_G} {ws : va_W} {tys : List (ClassId × FieldType)} {sz : Nat} : FrameBlind (va_Pc av (px_ D ws tys sz)) := fun a U g mk q => ⟨q.1, q.2.1, q.2.2.1, va_K.moved (u := U) (U := U.calling g mk a) (Vm.Alike.refl U.vm) q.2.2.2.1, q.2.2.2.2⟩
theorem px_at {av : List Value} {D : va_G} {ws : va_W} {tys : List (ClassId × FieldType)} {s : State} {H : Heap} {A : Nat → Prop} (hP : va_P D sCl ws H) (hK : va_K D sCl tys s) (hD : va_D A ws) : ∀ U : State, U.heap = H → s.WarmedH U.vm → va_Pc av (px_ D ws tys H.size) av.toArray U :=
  fun U hU hW => ⟨rfl, by rw [hU], by rw [hU]; exact hP, va_K.moved hW.alike hK, hD.weaken (fun _ _ _ _ => trivial)⟩
/-- the same with the tables -/
def py_ (D : va_G) (ws : va_W) (tys : List (ClassId × FieldType)) (sz : Nat) : State → Prop := fun U => px_ D ws tys sz U ∧ tb_ (va_A ws sz) U U.heap
theorem py_blind {av : List Value} {D : va_G} {ws : va_W} {tys : List (ClassId × FieldType)} {sz : Nat} : FrameBlind (va_Pc av (py_ D ws tys sz)) := fun a U g mk q => ⟨q.1, (px_blind (av := av) a U g mk ⟨q.1, q.2.1⟩).2, tb_moved (u := U) (U := U.calling g mk a) (Vm.Alike.refl U.vm) q.2.2⟩
theorem py_at {av : List Value} {D : va_G} {ws : va_W} {tys : List (ClassId × FieldType)} {s : State} {H : Heap} {A : Nat → Prop} (hP : va_P D sCl ws H) (hK : va_K D sCl tys s) (hD : va_D A ws) (hT : tb_ (va_A ws H.size) s H) : ∀ U : State, U.heap = H → s.WarmedH U.vm → va_Pc av (py_ D ws tys H.size) av.toArray U :=
  fun U hU hW => ⟨rfl, (px_at (av := av) hP hK hD U hU hW).2, by rw [hU]; exact tb_moved hW.alike hT⟩
/-- the engine's two methods behind its interface -/
def yI_init : MethodName := ⟨"BlockCipher", "init", "(ZLCipherParameters;)V"⟩
def yI_proc : MethodName := ⟨"BlockCipher", "processBlock", "([BI[BI)I"⟩
def if_ (U : State) : Prop := va_Fw RX2 yI_init yX2_init_2 U ∧ va_Fw RX2 yI_proc yX2_processBlock U
theorem if_moved {u U : State} (hvm : u.vm.Alike U.vm) (h : if_ u) : if_ U := ⟨va_Fw.moved (by decide +kernel) hvm h.1, va_Fw.moved (by decide +kernel) hvm h.2⟩
/-- the same with the tables and the interface's words -/
def pz_ (D : va_G) (ws : va_W) (tys : List (ClassId × FieldType)) (sz : Nat) : State → Prop := fun U => py_ D ws tys sz U ∧ if_ U
theorem pz_blind {av : List Value} {D : va_G} {ws : va_W} {tys : List (ClassId × FieldType)} {sz : Nat} : FrameBlind (va_Pc av (pz_ D ws tys sz)) := fun a U g mk q => ⟨q.1, (py_blind (av := av) a U g mk ⟨q.1, q.2.1⟩).2, if_moved (u := U) (U := U.calling g mk a) (Vm.Alike.refl U.vm) q.2.2⟩
theorem pz_at {av : List Value} {D : va_G} {ws : va_W} {tys : List (ClassId × FieldType)} {s : State} {H : Heap} {A : Nat → Prop} (hP : va_P D sCl ws H) (hK : va_K D sCl tys s) (hD : va_D A ws) (hT : tb_ (va_A ws H.size) s H) (hI : if_ s) : ∀ U : State, U.heap = H → s.WarmedH U.vm → va_Pc av (pz_ D ws tys H.size) av.toArray U :=
  fun U hU hW => ⟨rfl, (py_at (av := av) hP hK hD hT U hU hW).2, if_moved hW.alike hI⟩
/-- the world behind a method -/
def wx_ (D : va_G) (A : Nat → Prop) (ws : va_W) : State → Prop := fun t => va_P D sCl ws t.heap ∧ va_D A ws
-- ===== an array class by its name: one =====
theorem ty_same {D : va_G} {cB cI cA : ClassId} {s : State} (h : va_K D sCl (tyBI cB cI ++ [(cA, .byte)]) s) : cA = cB := Option.some.inj ((h.2 2 (cA, .byte) rfl).2.symm.trans (h.2 0 (cB, .byte) rfl).2)
theorem ty_sameI {D : va_G} {cB cI cA : ClassId} {s : State} (h : va_K D sCl (tyBI cB cI ++ [(cA, .int)]) s) : cA = cI := Option.some.inj ((h.2 2 (cA, .int) rfl).2.symm.trans (h.2 1 (cI, .int) rfl).2)
section SDW
variable {p : Program} {l : Launch} {e : Env} {R : Room} {s : State} {m : MethodId} {args : Array Value} {below : List Frame} {meth : Method} {c : Code} {H : Heap} {locs : List Loc} {cells slots : Nat} {Q : State → Prop} {pc : Nat} {ls : Array Slot} {rest st0 : List Value} {a : Array Value}
-- ===== a pure call, its answer known =====
theorem cs_i {v : Int32} (hr : CallRun p l e R s m args below meth c H locs cells slots 0 0 (F0 m pc ls st0) rest (vp_Si (fun r => r = v) a) (fun _ => False)) (kk : W p l e R s m args below meth c H locs cells slots Q (F0 m (pc + 3) ls (.int v :: rest))) : W p l e R s m args below meth c H locs cells slots Q (F0 m pc ls st0) :=
  vp_callSi hr (fun r hr2 => by
    have h : r = v := hr2
    rw [h]
    exact kk)
theorem cs_l {v : Int64} (hr : CallRun p l e R s m args below meth c H locs cells slots 0 0 (F0 m pc ls st0) rest (vp_Sl (fun r => r = v) a) (fun _ => False)) (kk : W p l e R s m args below meth c H locs cells slots Q (F0 m (pc + 3) ls (.long v :: rest))) : W p l e R s m args below meth c H locs cells slots Q (F0 m pc ls st0) :=
  vp_callSl hr (fun r hr2 => by
    have h : r = v := hr2
    rw [h]
    exact kk)
-- ===== loops that count up to N =====
theorem lp_for (I : Nat → Heap → List Loc → Array Slot → Prop) (N : Nat)
    (hs : ∀ (i : Nat) (H : Heap) (locs : List Loc) (ls : Array Slot), i < N → I i H locs ls → (∀ (H1 : Heap) (locs1 : List Loc) (ls1 : Array Slot), I (i + 1) H1 locs1 ls1 → W p l e R s m args below meth c H1 locs1 cells slots Q (F0 m pc ls1 [])) → W p l e R s m args below meth c H locs cells slots Q (F0 m pc ls []))
    (hx : ∀ (H : Heap) (locs : List Loc) (ls : Array Slot), I N H locs ls → W p l e R s m args below meth c H locs cells slots Q (F0 m pc ls []))
    (h : I 0 H locs ls) : W p l e R s m args below meth c H locs cells slots Q (F0 m pc ls []) := by
  have key : ∀ (n i : Nat), i + n = N → ∀ (H : Heap) (locs : List Loc) (ls : Array Slot), I i H locs ls → W p l e R s m args below meth c H locs cells slots Q (F0 m pc ls []) := by
    intro n
    induction n with
    | zero =>
      intro i hi H locs ls h
      have hi : i = N := hi
      subst hi
      exact hx H locs ls h
    | succ n ih =>
      intro i hi H locs ls h
      exact hs i H locs ls (by omega) h (fun H1 locs1 ls1 h1 => ih (i + 1) (by omega) H1 locs1 ls1 h1)
  exact key N 0 (Nat.zero_add N) H locs ls h
theorem lp_pure (I : Nat → Array Slot → Prop) (N : Nat)
    (hs : ∀ (i : Nat) (ls : Array Slot), i < N → I i ls → (∀ ls1 : Array Slot, I (i + 1) ls1 → W p l e R s m args below meth c H locs cells slots Q (F0 m pc ls1 [])) → W p l e R s m args below meth c H locs cells slots Q (F0 m pc ls []))
    (hx : ∀ ls : Array Slot, I N ls → W p l e R s m args below meth c H locs cells slots Q (F0 m pc ls []))
    (h : I 0 ls) : W p l e R s m args below meth c H locs cells slots Q (F0 m pc ls []) := by
  have key : ∀ (n i : Nat), i + n = N → ∀ ls : Array Slot, I i ls → W p l e R s m args below meth c H locs cells slots Q (F0 m pc ls []) := by
    intro n
    induction n with
    | zero =>
      intro i hi ls h
      have hi : i = N := hi
      subst hi
      exact hx ls h
    | succ n ih =>
      intro i hi ls h
      exact hs i ls (by omega) h (fun ls1 h1 => ih (i + 1) (by omega) ls1 h1)
  exact key N 0 (Nat.zero_add N) ls h
end SDW
section SDW2
variable {p : Program} {l : Launch} {e : Env} {R : Room} {s : State} {m : MethodId} {args : Array Value} {below : List Frame} {meth : Method} {c : Code} {H : Heap} {locs : List Loc} {cells slots : Nat} {Q : State → Prop} {pc : Nat} {ls : Array Slot} {rest : List Value}
/-- the number on the stack, said otherwise -/
theorem tp_i {x y : Int32} (h : x = y) (k : W p l e R s m args below meth c H locs cells slots Q (F0 m pc ls (.int y :: rest))) : W p l e R s m args below meth c H locs cells slots Q (F0 m pc ls (.int x :: rest)) := by rw [h]; exact k
theorem tp_l {x y : Int64} (h : x = y) (k : W p l e R s m args below meth c H locs cells slots Q (F0 m pc ls (.long y :: rest))) : W p l e R s m args below meth c H locs cells slots Q (F0 m pc ls (.long x :: rest)) := by rw [h]; exact k
end SDW2
theorem in_255 (x : Int32) : vp_in (x &&& 255) 256 := pk_andIn x 8 (by decide) (by decide)
theorem nI_inc (i : Nat) : nI i + Int32.ofInt 1 = nI (i + 1) := nI_1 i
end
section
/-! SEEDEngine, the pure methods: G, phaseCalc1, phaseCalc2, F, extractW0, extractW1, rotateLeft8, rotateRight8, bytesToLong (printed by w_engine.py) -/
set_option maxHeartbeats 4000000 in
set_option maxRecDepth 100000 in
/-- G: four tables, xor -/
theorem mt_G (l : Launch) (D : va_G) (ws : va_W) (tys : List (ClassId × FieldType)) (h0 : Nat) (x : Int32) : Met l yX2_G (ws_ yX2_G cX2_G 2 (some .int)) ({ frames := 0, cells := 0, slots := 0, locals := 0 }) (va_Pc [.ref h0, .int x] (pt_ D ws tys)) (vp_Si (fun r => r = sd_G x)) 0 0 (fun _ => False) := by
  refine Met.ofW (cc := cX2_G) (maxL := 2) (ret := (some .int)) (by decide) rfl ?_
  intro p e s m args below meth c s₁ B hml hv
  obtain ⟨rfl, hP, hK, hT⟩ := hv
  have hx := B.exec
  have hb := B.bytes
  have hr := B.returns
  have hts := atoms_spec (ws := (ws_ yX2_G cX2_G 2 (some .int))) B.pre
  have hts : ∀ w ∈ lw_all, w.before _ s = true := fun w h => hts w (List.mem_cons_of_mem _ h)
  have hown : s.vm.findClass RX2 = some m.cls := findClass_of_methodNamed B.named
  have hlocks := B.notSynchronized
  have hS : va_S nn_ s.heap s.heap [] := va_S.rf
  have hl := lv_entry ([.ref h0, .int x]) (n := 2) (Nat.le_of_ble_eq_true rfl)
  rw [lg_entry_eq]
  generalize (lg_sl ([.ref h0, .int x]) ++ List.replicate (2 - (lg_sl ([.ref h0, .int x])).length) Slot.unset).toArray = ls at hl ⊢
  have hl : lv_has ls 2 [(0, .ref h0), (1, .int x)] := hl
  obtain ⟨⟨t0, hz0, ht0⟩, ⟨t1, hz1, ht1⟩, ⟨t2, hz2, ht2⟩, ⟨t3, hz3, ht3⟩, hk⟩ := hT
  refine va_gets hx hb hz0 hS hown (hts _ q181) (fun _ h9 => h9) dX2_G_0 ?_
  refine lv_iload_n hx hb dX2_G_3 rfl (lv_at hl 1 rfl) ?_
  refine lv_sipush (v := 255) hx hb dX2_G_4 (by decide) ?_
  refine lv_iand hx hb dX2_G_7 ?_
  refine va_ti hx hb ht0 hS (in_255 _) rfl dX2_G_8 ?_
  refine va_gets hx hb hz1 hS hown (hts _ q183) (fun _ h9 => h9) dX2_G_9 ?_
  refine lv_iload_n hx hb dX2_G_12 rfl (lv_at hl 1 rfl) ?_
  refine lv_bipush (v := 8) hx hb dX2_G_13 (by decide) ?_
  refine lv_ishr hx hb dX2_G_15 ?_
  refine lv_sipush (v := 255) hx hb dX2_G_16 (by decide) ?_
  refine lv_iand hx hb dX2_G_19 ?_
  refine va_ti hx hb ht1 hS (in_255 _) rfl dX2_G_20 ?_
  refine lv_ixor hx hb dX2_G_21 ?_
  refine va_gets hx hb hz2 hS hown (hts _ q185) (fun _ h9 => h9) dX2_G_22 ?_
  refine lv_iload_n hx hb dX2_G_25 rfl (lv_at hl 1 rfl) ?_
  refine lv_bipush (v := 16) hx hb dX2_G_26 (by decide) ?_
  refine lv_ishr hx hb dX2_G_28 ?_
  refine lv_sipush (v := 255) hx hb dX2_G_29 (by decide) ?_
  refine lv_iand hx hb dX2_G_32 ?_
  refine va_ti hx hb ht2 hS (in_255 _) rfl dX2_G_33 ?_
  refine lv_ixor hx hb dX2_G_34 ?_
  refine va_gets hx hb hz3 hS hown (hts _ q187) (fun _ h9 => h9) dX2_G_35 ?_
  refine lv_iload_n hx hb dX2_G_38 rfl (lv_at hl 1 rfl) ?_
  refine lv_bipush (v := 24) hx hb dX2_G_39 (by decide) ?_
  refine lv_ishr hx hb dX2_G_41 ?_
  refine lv_sipush (v := 255) hx hb dX2_G_42 (by decide) ?_
  refine lv_iand hx hb dX2_G_45 ?_
  refine va_ti hx hb ht3 hS (in_255 _) rfl dX2_G_46 ?_
  refine lv_ixor hx hb dX2_G_47 ?_
  exact W.iret (v := sd_G x) hx hb hr (fun t ht hW => ⟨_, rfl, rfl, ht⟩) (fun q hq => by cases hq) dX2_G_48
set_option maxHeartbeats 4000000 in
set_option maxRecDepth 100000 in
/-- phaseCalc1 -/
theorem mt_p1 (l : Launch) (D : va_G) (ws : va_W) (tys : List (ClassId × FieldType)) (k h0 : Nat) (fs : List Value) (hw : ws[k]? = some (h0, .inr (1, fs))) (r0 k0 r1 k1 : Int32) : Met l yX2_phaseCalc1 (ws_ yX2_phaseCalc1 cX2_phaseCalc1 5 (some .int)) ({ frames := 1, cells := 0, slots := 0, locals := 21 }) (va_Pc [.ref h0, .int r0, .int k0, .int r1, .int k1] (pt_ D ws tys)) (vp_Si (fun r => r = sd_p1 r0 k0 r1 k1)) 0 0 (fun _ => False) := by
  refine Met.ofW (cc := cX2_phaseCalc1) (maxL := 5) (ret := (some .int)) (by decide) rfl ?_
  intro p e s m args below meth c s₁ B hml hv
  obtain ⟨rfl, hP, hK, hT⟩ := hv
  have hx := B.exec
  have hb := B.bytes
  have hr := B.returns
  have hts := atoms_spec (ws := (ws_ yX2_phaseCalc1 cX2_phaseCalc1 5 (some .int))) B.pre
  have hts : ∀ w ∈ lw_all, w.before _ s = true := fun w h => hts w (List.mem_cons_of_mem _ h)
  have hown : s.vm.findClass RX2 = some m.cls := findClass_of_methodNamed B.named
  have hlocks := B.notSynchronized
  have hS : va_S nn_ s.heap s.heap [] := va_S.rf
  have hl := lv_entry ([.ref h0, .int r0, .int k0, .int r1, .int k1]) (n := 5) (Nat.le_of_ble_eq_true rfl)
  rw [lg_entry_eq]
  generalize (lg_sl ([.ref h0, .int r0, .int k0, .int r1, .int k1]) ++ List.replicate (5 - (lg_sl ([.ref h0, .int r0, .int k0, .int r1, .int k1])).length) Slot.unset).toArray = ls at hl ⊢
  have hl : lv_has ls 5 [(0, .ref h0), (1, .int r0), (2, .int k0), (3, .int r1), (4, .int k1)] := hl
  refine lv_aload_n hx hb dX2_phaseCalc1_0 rfl (lv_at hl 0 rfl) ?_
  refine lv_aload_n hx hb dX2_phaseCalc1_1 rfl (lv_at hl 0 rfl) ?_
  refine lv_iload_n hx hb dX2_phaseCalc1_2 rfl (lv_at hl 1 rfl) ?_
  refine lv_iload_n hx hb dX2_phaseCalc1_3 rfl (lv_at hl 2 rfl) ?_
  refine lv_ixor hx hb dX2_phaseCalc1_4 ?_
  refine lv_iload_n hx hb dX2_phaseCalc1_5 rfl (lv_at hl 3 rfl) ?_
  refine lv_iload hx hb dX2_phaseCalc1_6 (lv_at hl 4 rfl) ?_
  refine lv_ixor hx hb dX2_phaseCalc1_8 ?_
  refine lv_ixor hx hb dX2_phaseCalc1_9 ?_
  refine cs_i (W.runV (As := [.int ((r0 ^^^ k0) ^^^ (r1 ^^^ k1))]) (rest := [.ref h0]) ⟨hx, hb, hml, hown, hts⟩ (mt_G l D ws tys h0 ((r0 ^^^ k0) ^^^ (r1 ^^^ k1))) (cwV 1 hts (lw_V q177 q179 qs6 q15 q180) rfl rfl rfl (by decide +kernel) ⟨Nat.le_of_ble_eq_true rfl, Nat.le_of_ble_eq_true rfl⟩) ⟨pt_blind, va_recv hK hP (ci := 1) (q0 := k) rfl hw, pt_at hP hK hT⟩ rfl rfl hl.1 rfl (lv_room (Nat.le_of_ble_eq_true rfl)) dX2_phaseCalc1_10 ⟨Nat.le_of_ble_eq_true rfl, Nat.le_of_ble_eq_true rfl⟩) ?_
  refine lv_iload_n hx hb dX2_phaseCalc1_13 rfl (lv_at hl 1 rfl) ?_
  refine lv_iload_n hx hb dX2_phaseCalc1_14 rfl (lv_at hl 2 rfl) ?_
  refine lv_ixor hx hb dX2_phaseCalc1_15 ?_
  refine lv_iadd hx hb dX2_phaseCalc1_16 ?_
  refine cs_i (W.runV (As := [.int ((sd_G ((r0 ^^^ k0) ^^^ (r1 ^^^ k1))) + (r0 ^^^ k0))]) (rest := []) ⟨hx, hb, hml, hown, hts⟩ (mt_G l D ws tys h0 (sd_G ((r0 ^^^ k0) ^^^ (r1 ^^^ k1)) + (r0 ^^^ k0))) (cwV 1 hts (lw_V q177 q179 qs6 q15 q180) rfl rfl rfl (by decide +kernel) ⟨Nat.le_of_ble_eq_true rfl, Nat.le_of_ble_eq_true rfl⟩) ⟨pt_blind, va_recv hK hP (ci := 1) (q0 := k) rfl hw, pt_at hP hK hT⟩ rfl rfl hl.1 rfl (lv_room (Nat.le_of_ble_eq_true rfl)) dX2_phaseCalc1_17 ⟨Nat.le_of_ble_eq_true rfl, Nat.le_of_ble_eq_true rfl⟩) ?_
  exact W.iret (v := sd_p1 r0 k0 r1 k1) hx hb hr (fun t ht hW => ⟨_, rfl, rfl, ht⟩) (fun q hq => by cases hq) dX2_phaseCalc1_20
set_option maxHeartbeats 4000000 in
set_option maxRecDepth 100000 in
/-- phaseCalc2 -/
theorem mt_p2 (l : Launch) (D : va_G) (ws : va_W) (tys : List (ClassId × FieldType)) (k h0 : Nat) (fs : List Value) (hw : ws[k]? = some (h0, .inr (1, fs))) (r0 k0 r1 k1 : Int32) : Met l yX2_phaseCalc2 (ws_ yX2_phaseCalc2 cX2_phaseCalc2 5 (some .int)) ({ frames := 2, cells := 0, slots := 0, locals := 45 }) (va_Pc [.ref h0, .int r0, .int k0, .int r1, .int k1] (pt_ D ws tys)) (vp_Si (fun r => r = sd_p2 r0 k0 r1 k1)) 0 0 (fun _ => False) := by
  refine Met.ofW (cc := cX2_phaseCalc2) (maxL := 5) (ret := (some .int)) (by decide) rfl ?_
  intro p e s m args below meth c s₁ B hml hv
  obtain ⟨rfl, hP, hK, hT⟩ := hv
  have hx := B.exec
  have hb := B.bytes
  have hr := B.returns
  have hts := atoms_spec (ws := (ws_ yX2_phaseCalc2 cX2_phaseCalc2 5 (some .int))) B.pre
  have hts : ∀ w ∈ lw_all, w.before _ s = true := fun w h => hts w (List.mem_cons_of_mem _ h)
  have hown : s.vm.findClass RX2 = some m.cls := findClass_of_methodNamed B.named
  have hlocks := B.notSynchronized
  have hS : va_S nn_ s.heap s.heap [] := va_S.rf
  have hl := lv_entry ([.ref h0, .int r0, .int k0, .int r1, .int k1]) (n := 5) (Nat.le_of_ble_eq_true rfl)
  rw [lg_entry_eq]
  generalize (lg_sl ([.ref h0, .int r0, .int k0, .int r1, .int k1]) ++ List.replicate (5 - (lg_sl ([.ref h0, .int r0, .int k0, .int r1, .int k1])).length) Slot.unset).toArray = ls at hl ⊢
  have hl : lv_has ls 5 [(0, .ref h0), (1, .int r0), (2, .int k0), (3, .int r1), (4, .int k1)] := hl
  refine lv_aload_n hx hb dX2_phaseCalc2_0 rfl (lv_at hl 0 rfl) ?_
  refine lv_aload_n hx hb dX2_phaseCalc2_1 rfl (lv_at hl 0 rfl) ?_
  refine lv_iload_n hx hb dX2_phaseCalc2_2 rfl (lv_at hl 1 rfl) ?_
  refine lv_iload_n hx hb dX2_phaseCalc2_3 rfl (lv_at hl 2 rfl) ?_
  refine lv_iload_n hx hb dX2_phaseCalc2_4 rfl (lv_at hl 3 rfl) ?_
  refine lv_iload hx hb dX2_phaseCalc2_5 (lv_at hl 4 rfl) ?_
  refine cs_i (W.runV (As := [.int r0, .int k0, .int r1, .int k1]) (rest := [.ref h0]) ⟨hx, hb, hml, hown, hts⟩ (mt_p1 l D ws tys k h0 fs hw r0 k0 r1 k1) (cwV 4 hts (lw_V q268 q270 qs11 q15 q271) rfl rfl rfl (by decide +kernel) ⟨Nat.le_of_ble_eq_true rfl, Nat.le_of_ble_eq_true rfl⟩) ⟨pt_blind, va_recv hK hP (ci := 1) (q0 := k) rfl hw, pt_at hP hK hT⟩ rfl rfl hl.1 rfl (lv_room (Nat.le_of_ble_eq_true rfl)) dX2_phaseCalc2_7 ⟨Nat.le_of_ble_eq_true rfl, Nat.le_of_ble_eq_true rfl⟩) ?_
  refine lv_aload_n hx hb dX2_phaseCalc2_10 rfl (lv_at hl 0 rfl) ?_
  refine lv_iload_n hx hb dX2_phaseCalc2_11 rfl (lv_at hl 1 rfl) ?_
  refine lv_iload_n hx hb dX2_phaseCalc2_12 rfl (lv_at hl 2 rfl) ?_
  refine lv_ixor hx hb dX2_phaseCalc2_13 ?_
  refine lv_iload_n hx hb dX2_phaseCalc2_14 rfl (lv_at hl 3 rfl) ?_
  refine lv_iload hx hb dX2_phaseCalc2_15 (lv_at hl 4 rfl) ?_
  refine lv_ixor hx hb dX2_phaseCalc2_17 ?_
  refine lv_ixor hx hb dX2_phaseCalc2_18 ?_
  refine cs_i (W.runV (As := [.int ((r0 ^^^ k0) ^^^ (r1 ^^^ k1))]) (rest := [.int (sd_p1 r0 k0 r1 k1), .ref h0]) ⟨hx, hb, hml, hown, hts⟩ (mt_G l D ws tys h0 ((r0 ^^^ k0) ^^^ (r1 ^^^ k1))) (cwV 1 hts (lw_V q177 q179 qs6 q15 q180) rfl rfl rfl (by decide +kernel) ⟨Nat.le_of_ble_eq_true rfl, Nat.le_of_ble_eq_true rfl⟩) ⟨pt_blind, va_recv hK hP (ci := 1) (q0 := k) rfl hw, pt_at hP hK hT⟩ rfl rfl hl.1 rfl (lv_room (Nat.le_of_ble_eq_true rfl)) dX2_phaseCalc2_19 ⟨Nat.le_of_ble_eq_true rfl, Nat.le_of_ble_eq_true rfl⟩) ?_
  refine lv_iadd hx hb dX2_phaseCalc2_22 ?_
  refine cs_i (W.runV (As := [.int ((sd_p1 r0 k0 r1 k1) + (sd_G ((r0 ^^^ k0) ^^^ (r1 ^^^ k1))))]) (rest := []) ⟨hx, hb, hml, hown, hts⟩ (mt_G l D ws tys h0 (sd_p1 r0 k0 r1 k1 + sd_G ((r0 ^^^ k0) ^^^ (r1 ^^^ k1)))) (cwV 1 hts (lw_V q177 q179 qs6 q15 q180) rfl rfl rfl (by decide +kernel) ⟨Nat.le_of_ble_eq_true rfl, Nat.le_of_ble_eq_true rfl⟩) ⟨pt_blind, va_recv hK hP (ci := 1) (q0 := k) rfl hw, pt_at hP hK hT⟩ rfl rfl hl.1 rfl (lv_room (Nat.le_of_ble_eq_true rfl)) dX2_phaseCalc2_23 ⟨Nat.le_of_ble_eq_true rfl, Nat.le_of_ble_eq_true rfl⟩) ?_
  exact W.iret (v := sd_p2 r0 k0 r1 k1) hx hb hr (fun t ht hW => ⟨_, rfl, rfl, ht⟩) (fun q hq => by cases hq) dX2_phaseCalc2_26
set_option maxHeartbeats 4000000 in
set_option maxRecDepth 100000 in
/-- F -/
theorem mt_F (l : Launch) (D : va_G) (ws : va_W) (tys : List (ClassId × FieldType)) (k h0 : Nat) (fs : List Value) (hw : ws[k]? = some (h0, .inr (1, fs))) (k0 k1 : Int32) (r : Int64) : Met l yX2_F (ws_ yX2_F cX2_F 9 (some .long)) ({ frames := 3, cells := 0, slots := 0, locals := 69 }) (va_Pc [.ref h0, .int k0, .int k1, .long r] (pt_ D ws tys)) (vp_Sl (fun z => z = sd_F k0 k1 r)) 0 0 (fun _ => False) := by
  refine Met.ofW (cc := cX2_F) (maxL := 9) (ret := (some .long)) (by decide) rfl ?_
  intro p e s m args below meth c s₁ B hml hv
  obtain ⟨rfl, hP, hK, hT⟩ := hv
  have hx := B.exec
  have hb := B.bytes
  have hr := B.returns
  have hts := atoms_spec (ws := (ws_ yX2_F cX2_F 9 (some .long))) B.pre
  have hts : ∀ w ∈ lw_all, w.before _ s = true := fun w h => hts w (List.mem_cons_of_mem _ h)
  have hown : s.vm.findClass RX2 = some m.cls := findClass_of_methodNamed B.named
  have hlocks := B.notSynchronized
  have hS : va_S nn_ s.heap s.heap [] := va_S.rf
  have hl := lv_entry ([.ref h0, .int k0, .int k1, .long r]) (n := 9) (Nat.le_of_ble_eq_true rfl)
  rw [lg_entry_eq]
  generalize (lg_sl ([.ref h0, .int k0, .int k1, .long r]) ++ List.replicate (9 - (lg_sl ([.ref h0, .int k0, .int k1, .long r])).length) Slot.unset).toArray = ls at hl ⊢
  have hl : lv_has ls 9 [(0, .ref h0), (1, .int k0), (2, .int k1), (3, .long r)] := hl
  refine lv_lload_n hx hb dX2_F_0 rfl (lv_at hl 3 rfl) ?_
  refine lv_bipush (v := 32) hx hb dX2_F_1 (by decide) ?_
  refine lv_lshr hx hb dX2_F_3 rfl ?_
  refine lv_l2i hx hb dX2_F_4 rfl ?_
  refine tp_i (y := sd_w0 r) rfl ?_
  refine lv_istore (lv' := [(5, .int (sd_w0 r)), (0, .ref h0), (1, .int k0), (2, .int k1), (3, .long r)]) hx hb dX2_F_5 hl (by decide) rfl (fun ls hl => ?_)
  refine lv_lload_n hx hb dX2_F_7 rfl (lv_at hl 4 rfl) ?_
  refine lv_l2i hx hb dX2_F_8 rfl ?_
  refine tp_i (y := sd_w1 r) rfl ?_
  refine lv_istore (lv' := [(6, .int (sd_w1 r)), (5, .int (sd_w0 r)), (0, .ref h0), (1, .int k0), (2, .int k1), (3, .long r)]) hx hb dX2_F_9 hl (by decide) rfl (fun ls hl => ?_)
  refine lv_aload_n hx hb dX2_F_11 rfl (lv_at hl 2 rfl) ?_
  refine lv_iload hx hb dX2_F_12 (lv_at hl 1 rfl) ?_
  refine lv_iload_n hx hb dX2_F_14 rfl (lv_at hl 3 rfl) ?_
  refine lv_iload hx hb dX2_F_15 (lv_at hl 0 rfl) ?_
  refine lv_iload_n hx hb dX2_F_17 rfl (lv_at hl 4 rfl) ?_
  refine cs_i (W.runV (As := [.int (sd_w0 r), .int k0, .int (sd_w1 r), .int k1]) (rest := []) ⟨hx, hb, hml, hown, hts⟩ (mt_p2 l D ws tys k h0 fs hw (sd_w0 r) k0 (sd_w1 r) k1) (cwV 4 hts (lw_V q264 q266 qs10 q15 q267) rfl rfl rfl (by decide +kernel) ⟨Nat.le_of_ble_eq_true rfl, Nat.le_of_ble_eq_true rfl⟩) ⟨pt_blind, va_recv hK hP (ci := 1) (q0 := k) rfl hw, pt_at hP hK hT⟩ rfl rfl hl.1 rfl (lv_room (Nat.le_of_ble_eq_true rfl)) dX2_F_18 ⟨Nat.le_of_ble_eq_true rfl, Nat.le_of_ble_eq_true rfl⟩) ?_
  refine lv_istore (lv' := [(7, .int (sd_p2 (sd_w0 r) k0 (sd_w1 r) k1)), (6, .int (sd_w1 r)), (5, .int (sd_w0 r)), (0, .ref h0), (1, .int k0), (2, .int k1), (3, .long r)]) hx hb dX2_F_21 hl (by decide) rfl (fun ls hl => ?_)
  refine lv_iload hx hb dX2_F_23 (lv_at hl 0 rfl) ?_
  refine lv_aload_n hx hb dX2_F_25 rfl (lv_at hl 3 rfl) ?_
  refine lv_iload hx hb dX2_F_26 (lv_at hl 2 rfl) ?_
  refine lv_iload_n hx hb dX2_F_28 rfl (lv_at hl 4 rfl) ?_
  refine lv_iload hx hb dX2_F_29 (lv_at hl 1 rfl) ?_
  refine lv_iload_n hx hb dX2_F_31 rfl (lv_at hl 5 rfl) ?_
  refine cs_i (W.runV (As := [.int (sd_w0 r), .int k0, .int (sd_w1 r), .int k1]) (rest := [.int (sd_p2 (sd_w0 r) k0 (sd_w1 r) k1)]) ⟨hx, hb, hml, hown, hts⟩ (mt_p1 l D ws tys k h0 fs hw (sd_w0 r) k0 (sd_w1 r) k1) (cwV 4 hts (lw_V q268 q270 qs11 q15 q271) rfl rfl rfl (by decide +kernel) ⟨Nat.le_of_ble_eq_true rfl, Nat.le_of_ble_eq_true rfl⟩) ⟨pt_blind, va_recv hK hP (ci := 1) (q0 := k) rfl hw, pt_at hP hK hT⟩ rfl rfl hl.1 rfl (lv_room (Nat.le_of_ble_eq_true rfl)) dX2_F_32 ⟨Nat.le_of_ble_eq_true rfl, Nat.le_of_ble_eq_true rfl⟩) ?_
  refine lv_iadd hx hb dX2_F_35 ?_
  refine lv_istore (lv' := [(8, .int ((sd_p2 (sd_w0 r) k0 (sd_w1 r) k1) + (sd_p1 (sd_w0 r) k0 (sd_w1 r) k1))), (7, .int (sd_p2 (sd_w0 r) k0 (sd_w1 r) k1)), (6, .int (sd_w1 r)), (5, .int (sd_w0 r)), (0, .ref h0), (1, .int k0), (2, .int k1), (3, .long r)]) hx hb dX2_F_36 hl (by decide) rfl (fun ls hl => ?_)
  refine lv_iload hx hb dX2_F_38 (lv_at hl 0 rfl) ?_
  refine lv_i2l hx hb dX2_F_40 rfl ?_
  refine lv_bipush (v := 32) hx hb dX2_F_41 (by decide) ?_
  refine lv_lshl hx hb dX2_F_43 rfl ?_
  refine lv_iload hx hb dX2_F_44 (lv_at hl 1 rfl) ?_
  refine lv_i2l hx hb dX2_F_46 rfl ?_
  refine lv_ldc2 hx hb hown (hts _ q272) dX2_F_47 ?_
  refine lv_land hx hb dX2_F_50 ?_
  refine lv_lor hx hb dX2_F_51 ?_
  exact W.lret (v := sd_F k0 k1 r) hx hb hr (fun t ht hW => ⟨_, rfl, rfl, ht⟩) (fun q hq => by cases hq) dX2_F_52
set_option maxHeartbeats 4000000 in
set_option maxRecDepth 100000 in
/-- the lower int of a long -/
theorem mt_w1 (l : Launch) (D : va_G) (ws : va_W) (tys : List (ClassId × FieldType)) (h0 : Nat) (x : Int64) : Met l yX2_extractW1 (ws_ yX2_extractW1 cX2_extractW1 3 (some .int)) ({ frames := 0, cells := 0, slots := 0, locals := 0 }) (va_Pc [.ref h0, .long x] (pu_ D ws tys)) (vp_Si (fun z => z = sd_w1 x)) 0 0 (fun _ => False) := by
  refine Met.ofW (cc := cX2_extractW1) (maxL := 3) (ret := (some .int)) (by decide) rfl ?_
  intro p e s m args below meth c s₁ B hml hv
  obtain ⟨rfl, hP, hK⟩ := hv
  have hx := B.exec
  have hb := B.bytes
  have hr := B.returns
  have hts := atoms_spec (ws := (ws_ yX2_extractW1 cX2_extractW1 3 (some .int))) B.pre
  have hts : ∀ w ∈ lw_all, w.before _ s = true := fun w h => hts w (List.mem_cons_of_mem _ h)
  have hown : s.vm.findClass RX2 = some m.cls := findClass_of_methodNamed B.named
  have hlocks := B.notSynchronized
  have hS : va_S nn_ s.heap s.heap [] := va_S.rf
  have hl := lv_entry ([.ref h0, .long x]) (n := 3) (Nat.le_of_ble_eq_true rfl)
  rw [lg_entry_eq]
  generalize (lg_sl ([.ref h0, .long x]) ++ List.replicate (3 - (lg_sl ([.ref h0, .long x])).length) Slot.unset).toArray = ls at hl ⊢
  have hl : lv_has ls 3 [(0, .ref h0), (1, .long x)] := hl
  refine lv_lload_n hx hb dX2_extractW1_0 rfl (lv_at hl 1 rfl) ?_
  refine lv_l2i hx hb dX2_extractW1_1 rfl ?_
  exact W.iret (v := sd_w1 x) hx hb hr (fun t ht hW => ⟨_, rfl, rfl, ht⟩) (fun q hq => by cases hq) dX2_extractW1_2
set_option maxHeartbeats 4000000 in
set_option maxRecDepth 100000 in
/-- the upper int of a long -/
theorem mt_w0 (l : Launch) (D : va_G) (ws : va_W) (tys : List (ClassId × FieldType)) (h0 : Nat) (x : Int64) : Met l yX2_extractW0 (ws_ yX2_extractW0 cX2_extractW0 3 (some .int)) ({ frames := 0, cells := 0, slots := 0, locals := 0 }) (va_Pc [.ref h0, .long x] (pu_ D ws tys)) (vp_Si (fun z => z = sd_w0 x)) 0 0 (fun _ => False) := by
  refine Met.ofW (cc := cX2_extractW0) (maxL := 3) (ret := (some .int)) (by decide) rfl ?_
  intro p e s m args below meth c s₁ B hml hv
  obtain ⟨rfl, hP, hK⟩ := hv
  have hx := B.exec
  have hb := B.bytes
  have hr := B.returns
  have hts := atoms_spec (ws := (ws_ yX2_extractW0 cX2_extractW0 3 (some .int))) B.pre
  have hts : ∀ w ∈ lw_all, w.before _ s = true := fun w h => hts w (List.mem_cons_of_mem _ h)
  have hown : s.vm.findClass RX2 = some m.cls := findClass_of_methodNamed B.named
  have hlocks := B.notSynchronized
  have hS : va_S nn_ s.heap s.heap [] := va_S.rf
  have hl := lv_entry ([.ref h0, .long x]) (n := 3) (Nat.le_of_ble_eq_true rfl)
  rw [lg_entry_eq]
  generalize (lg_sl ([.ref h0, .long x]) ++ List.replicate (3 - (lg_sl ([.ref h0, .long x])).length) Slot.unset).toArray = ls at hl ⊢
  have hl : lv_has ls 3 [(0, .ref h0), (1, .long x)] := hl
  refine lv_lload_n hx hb dX2_extractW0_0 rfl (lv_at hl 1 rfl) ?_
  refine lv_bipush (v := 32) hx hb dX2_extractW0_1 (by decide) ?_
  refine lv_lshr hx hb dX2_extractW0_3 rfl ?_
  refine lv_l2i hx hb dX2_extractW0_4 rfl ?_
  exact W.iret (v := sd_w0 x) hx hb hr (fun t ht hW => ⟨_, rfl, rfl, ht⟩) (fun q hq => by cases hq) dX2_extractW0_5
set_option maxHeartbeats 4000000 in
set_option maxRecDepth 100000 in
/-- a long turned left by 8 -/
theorem mt_rL (l : Launch) (D : va_G) (ws : va_W) (tys : List (ClassId × FieldType)) (h0 : Nat) (x : Int64) : Met l yX2_rotateLeft8 (ws_ yX2_rotateLeft8 cX2_rotateLeft8 3 (some .long)) ({ frames := 0, cells := 0, slots := 0, locals := 0 }) (va_Pc [.ref h0, .long x] (pu_ D ws tys)) (vp_Sl (fun z => z = sd_rL x)) 0 0 (fun _ => False) := by
  refine Met.ofW (cc := cX2_rotateLeft8) (maxL := 3) (ret := (some .long)) (by decide) rfl ?_
  intro p e s m args below meth c s₁ B hml hv
  obtain ⟨rfl, hP, hK⟩ := hv
  have hx := B.exec
  have hb := B.bytes
  have hr := B.returns
  have hts := atoms_spec (ws := (ws_ yX2_rotateLeft8 cX2_rotateLeft8 3 (some .long))) B.pre
  have hts : ∀ w ∈ lw_all, w.before _ s = true := fun w h => hts w (List.mem_cons_of_mem _ h)
  have hown : s.vm.findClass RX2 = some m.cls := findClass_of_methodNamed B.named
  have hlocks := B.notSynchronized
  have hS : va_S nn_ s.heap s.heap [] := va_S.rf
  have hl := lv_entry ([.ref h0, .long x]) (n := 3) (Nat.le_of_ble_eq_true rfl)
  rw [lg_entry_eq]
  generalize (lg_sl ([.ref h0, .long x]) ++ List.replicate (3 - (lg_sl ([.ref h0, .long x])).length) Slot.unset).toArray = ls at hl ⊢
  have hl : lv_has ls 3 [(0, .ref h0), (1, .long x)] := hl
  refine lv_lload_n hx hb dX2_rotateLeft8_0 rfl (lv_at hl 1 rfl) ?_
  refine lv_bipush (v := 8) hx hb dX2_rotateLeft8_1 (by decide) ?_
  refine lv_lshl hx hb dX2_rotateLeft8_3 rfl ?_
  refine lv_lload_n hx hb dX2_rotateLeft8_4 rfl (lv_at hl 1 rfl) ?_
  refine lv_bipush (v := 56) hx hb dX2_rotateLeft8_5 (by decide) ?_
  refine lv_lushr hx hb dX2_rotateLeft8_7 rfl ?_
  refine lv_lor hx hb dX2_rotateLeft8_8 ?_
  exact W.lret (v := sd_rL x) hx hb hr (fun t ht hW => ⟨_, rfl, rfl, ht⟩) (fun q hq => by cases hq) dX2_rotateLeft8_9
set_option maxHeartbeats 4000000 in
set_option maxRecDepth 100000 in
/-- a long turned right by 8 -/
theorem mt_rR (l : Launch) (D : va_G) (ws : va_W) (tys : List (ClassId × FieldType)) (h0 : Nat) (x : Int64) : Met l yX2_rotateRight8 (ws_ yX2_rotateRight8 cX2_rotateRight8 3 (some .long)) ({ frames := 0, cells := 0, slots := 0, locals := 0 }) (va_Pc [.ref h0, .long x] (pu_ D ws tys)) (vp_Sl (fun z => z = sd_rR x)) 0 0 (fun _ => False) := by
  refine Met.ofW (cc := cX2_rotateRight8) (maxL := 3) (ret := (some .long)) (by decide) rfl ?_
  intro p e s m args below meth c s₁ B hml hv
  obtain ⟨rfl, hP, hK⟩ := hv
  have hx := B.exec
  have hb := B.bytes
  have hr := B.returns
  have hts := atoms_spec (ws := (ws_ yX2_rotateRight8 cX2_rotateRight8 3 (some .long))) B.pre
  have hts : ∀ w ∈ lw_all, w.before _ s = true := fun w h => hts w (List.mem_cons_of_mem _ h)
  have hown : s.vm.findClass RX2 = some m.cls := findClass_of_methodNamed B.named
  have hlocks := B.notSynchronized
  have hS : va_S nn_ s.heap s.heap [] := va_S.rf
  have hl := lv_entry ([.ref h0, .long x]) (n := 3) (Nat.le_of_ble_eq_true rfl)
  rw [lg_entry_eq]
  generalize (lg_sl ([.ref h0, .long x]) ++ List.replicate (3 - (lg_sl ([.ref h0, .long x])).length) Slot.unset).toArray = ls at hl ⊢
  have hl : lv_has ls 3 [(0, .ref h0), (1, .long x)] := hl
  refine lv_lload_n hx hb dX2_rotateRight8_0 rfl (lv_at hl 1 rfl) ?_
  refine lv_bipush (v := 8) hx hb dX2_rotateRight8_1 (by decide) ?_
  refine lv_lushr hx hb dX2_rotateRight8_3 rfl ?_
  refine lv_lload_n hx hb dX2_rotateRight8_4 rfl (lv_at hl 1 rfl) ?_
  refine lv_bipush (v := 56) hx hb dX2_rotateRight8_5 (by decide) ?_
  refine lv_lshl hx hb dX2_rotateRight8_7 rfl ?_
  refine lv_lor hx hb dX2_rotateRight8_8 ?_
  exact W.lret (v := sd_rR x) hx hb hr (fun t ht hW => ⟨_, rfl, rfl, ht⟩) (fun q hq => by cases hq) dX2_rotateRight8_9
set_option maxHeartbeats 4000000 in
set_option maxRecDepth 100000 in
/-- eight bytes read as a long -/
theorem mt_b2l (l : Launch) (D : va_G) (ws : va_W) (cB cI : ClassId) (k h0 h1 n off : Nat) (f : Nat → Int32) (hw : ws[k]? = some (h1, .inl (cB, n, .inl f))) (hn : off + 8 ≤ n) (hn2 : n < 2 ^ 31) : Met l yX2_bytesToLong (ws_ yX2_bytesToLong cX2_bytesToLong 6 (some .long)) ({ frames := 0, cells := 0, slots := 0, locals := 0 }) (va_Pc [.ref h0, .ref h1, .int (nI off)] (pu_ D ws (tyBI cB cI))) (vp_Sl (fun z => z = sd_b2l f off)) 0 0 (fun _ => False) := by
  refine Met.ofW (cc := cX2_bytesToLong) (maxL := 6) (ret := (some .long)) (by decide) rfl ?_
  intro p e s m args below meth c s₁ B hml hv
  obtain ⟨rfl, hP, hK⟩ := hv
  have hx := B.exec
  have hb := B.bytes
  have hr := B.returns
  have hts := atoms_spec (ws := (ws_ yX2_bytesToLong cX2_bytesToLong 6 (some .long))) B.pre
  have hts : ∀ w ∈ lw_all, w.before _ s = true := fun w h => hts w (List.mem_cons_of_mem _ h)
  have hown : s.vm.findClass RX2 = some m.cls := findClass_of_methodNamed B.named
  have hlocks := B.notSynchronized
  have hS : va_S nn_ s.heap s.heap [] := va_S.rf
  have hl := lv_entry ([.ref h0, .ref h1, .int (nI off)]) (n := 6) (Nat.le_of_ble_eq_true rfl)
  rw [lg_entry_eq]
  generalize (lg_sl ([.ref h0, .ref h1, .int (nI off)]) ++ List.replicate (6 - (lg_sl ([.ref h0, .ref h1, .int (nI off)])).length) Slot.unset).toArray = ls at hl ⊢
  have hl : lv_has ls 6 [(0, .ref h0), (1, .ref h1), (2, .int (nI off))] := hl
  refine lv_lconst (v := 0) hx hb dX2_bytesToLong_0 (by decide) ?_
  refine lv_lstore_n (lv' := [(3, .long 0), (0, .ref h0), (1, .ref h1), (2, .int (nI off))]) hx hb dX2_bytesToLong_1 rfl hl (by decide) rfl (fun ls hl => ?_)
  refine lv_iconst (v := 0) hx hb dX2_bytesToLong_2 (by decide) ?_
  refine lv_istore (lv' := [(5, .int 0), (3, .long 0), (0, .ref h0), (1, .ref h1), (2, .int (nI off))]) hx hb dX2_bytesToLong_3 hl (by decide) rfl (fun ls hl => ?_)
  refine lp_pure (fun i ls => lv_has ls 6 [(5, .int (nI i)), (3, .long (sd_b2lN f off i)), (0, .ref h0), (1, .ref h1), (2, .int (nI off))]) 8 (fun i ls hi hl ih => ?_) (fun ls hl => ?_) (lv_sub hl [0, 1, 2, 3, 4] rfl)
  · refine lv_iload hx hb dX2_bytesToLong_5 (lv_at hl 0 rfl) ?_
    refine lv_bipush (v := 7) hx hb dX2_bytesToLong_7 (by decide) ?_
    refine lv_icmp_gt (tgt := 35) hx hb dX2_bytesToLong_9 (by decide) (fun c0 => ?_) (fun c0 => ?_)
    · exact absurd c0 (nI_nlt (by omega) (by omega) : ¬ nI 7 < nI i)
    · refine lv_lload_n hx hb dX2_bytesToLong_12 rfl (lv_at hl 1 rfl) ?_
      refine lv_bipush (v := 8) hx hb dX2_bytesToLong_13 (by decide) ?_
      refine lv_lshl hx hb dX2_bytesToLong_15 rfl ?_
      refine lv_aload_n hx hb dX2_bytesToLong_16 rfl (lv_at hl 3 rfl) ?_
      refine lv_iload hx hb dX2_bytesToLong_17 (lv_at hl 0 rfl) ?_
      refine lv_iload_n hx hb dX2_bytesToLong_19 rfl (lv_at hl 4 rfl) ?_
      refine lv_iadd hx hb dX2_bytesToLong_20 ?_
      refine tp_i (y := nI (i + off)) (nI_add i off) ?_
      refine va_bald hx hb hK hP k 0 hw rfl (vp_in_nI (show i + off < n by omega) hn2) dX2_bytesToLong_21 ?_
      refine tp_i (y := f (i + off)) (by rw [nI_clamp (by omega)]) ?_
      refine lv_sipush (v := 255) hx hb dX2_bytesToLong_22 (by decide) ?_
      refine lv_iand hx hb dX2_bytesToLong_25 ?_
      refine lv_i2l hx hb dX2_bytesToLong_26 rfl ?_
      refine lv_ladd hx hb dX2_bytesToLong_27 ?_
      refine tp_l (y := sd_b2lN f off (i + 1)) rfl ?_
      refine lv_lstore_n (lv' := [(3, .long (sd_b2lN f off (i + 1))), (5, .int (nI i)), (0, .ref h0), (1, .ref h1), (2, .int (nI off))]) hx hb dX2_bytesToLong_28 rfl hl (by decide) rfl (fun ls hl => ?_)
      refine lv_iinc (v := nI (i + 1)) (lv' := [(5, .int (nI (i + 1))), (3, .long (sd_b2lN f off (i + 1))), (0, .ref h0), (1, .ref h1), (2, .int (nI off))]) hx hb dX2_bytesToLong_29 hl (k := 1) rfl (nI_inc i) (by decide) rfl (fun ls hl => ?_)
      refine lv_goto (tgt := 5) hx hb dX2_bytesToLong_32 (by decide) ?_
      exact ih ls (lv_sub hl [0, 1, 2, 3, 4] rfl)
  · refine lv_iload hx hb dX2_bytesToLong_5 (lv_at hl 0 rfl) ?_
    refine lv_bipush (v := 7) hx hb dX2_bytesToLong_7 (by decide) ?_
    refine lv_icmp_gt (tgt := 35) hx hb dX2_bytesToLong_9 (by decide) (fun c0 => ?_) (fun c0 => ?_)
    · refine lv_lload_n hx hb dX2_bytesToLong_35 rfl (lv_at hl 1 rfl) ?_
      exact W.lret (v := sd_b2l f off) hx hb hr (fun t ht hW => ⟨_, rfl, rfl, ht⟩) (fun q hq => by cases hq) dX2_bytesToLong_36
    · exact absurd (by decide : (7 : Int32) < nI 8) c0
end
section
/-! SEEDEngine and KeyParameter, the methods that write or make cells (printed by w_engine2.py) -/
theorem st_l2b (f : Nat → Int32) (off : Nat) (v : Int64) (i : Nat) (h : i + off < 2 ^ 31) : upd (sd_l2b f off v i) (nI (i + off)).toNatClampNeg (vp_nar .byte (sd_by v i)) = sd_l2b f off v (i + 1) := by
  rw [nI_clamp h, show vp_nar .byte (sd_by v i) = sd_by v i from pk_vb _, sd_l2b_s]
/-- a boolean on the stack -/
def bI (b : Bool) : Int32 := if b = true then 1 else 0
theorem bI_nar (b : Bool) : narrow .boolean (.int (bI b)) = .int (bI b) := by cases b <;> rfl
theorem bI_fit (b : Bool) : fits .boolean (.int (bI b)) = true := by cases b <;> decide
/-- a copy of sixteen bytes -/
def sd_cp (f : Nat → Int32) : Nat → Int32 := va_cpy f kn_z 0 0 16
theorem sd_rk_s (lo up : Int64) (i : Nat) (hi : i < 16) : upd (upd (sd_rk lo up i) (nI (2 * i)).toNatClampNeg (sd_k0 lo up i)) (nI (2 * i + 1)).toNatClampNeg (sd_k1 lo up i) = sd_rk lo up (i + 1) := by
  rw [nI_clamp (by omega), nI_clamp (by omega)]
  funext j
  unfold upd sd_rk
  by_cases h1 : j = 2 * i + 1
  · rw [if_pos h1, if_pos (show j < 2 * (i + 1) by omega), if_neg (show ¬ j % 2 = 0 by omega), show j / 2 = i by omega]
  · rw [if_neg h1]
    by_cases h0 : j = 2 * i
    · rw [if_pos h0, if_pos (show j < 2 * (i + 1) by omega), if_pos (show j % 2 = 0 by omega), show j / 2 = i by omega]
    · rw [if_neg h0]
      by_cases h2 : j < 2 * i
      · rw [if_pos h2, if_pos (show j < 2 * (i + 1) by omega)]
      · rw [if_neg h2, if_neg (show ¬ j < 2 * (i + 1) by omega)]
theorem sd_rk_0 (lo up : Int64) : sd_rk lo up 0 = kn_z := by
  funext j
  unfold sd_rk
  rw [if_neg (by omega)]
  rfl
theorem sd_ks_e (lo up : Int64) {i : Nat} (h : i % 2 = 0) : sd_ks lo up (i + 1) = (sd_rR (sd_ks lo up i).1, (sd_ks lo up i).2) := if_pos h
theorem sd_ks_o (lo up : Int64) {i : Nat} (h : ¬ i % 2 = 0) : sd_ks lo up (i + 1) = ((sd_ks lo up i).1, sd_rL (sd_ks lo up i).2) := if_neg h
set_option maxHeartbeats 4000000 in
set_option maxRecDepth 100000 in
/-- a long written as eight bytes -/
theorem mt_l2b (l : Launch) (D : va_G) (cB cI : ClassId) (h0 h1 n off sz : Nat) (f : Nat → Int32) (v : Int64) (hn : off + 8 ≤ n) (hn2 : n < 2 ^ 31) : Met l yX2_longToBytes (ws_ yX2_longToBytes cX2_longToBytes 6 none) ({ frames := 0, cells := 0, slots := 0, locals := 0 }) (va_Pc [.ref h0, .ref h1, .int (nI off), .long v] (px_ D [(h1, .inl (cB, n, .inl f))] (tyBI cB cI) sz)) (va_Qv (fun _ : Unit => True) (fun _ => wx_ D (va_A [(h1, .inl (cB, n, .inl f))] sz) [(h1, .inl (cB, n, .inl (sd_l2b f off v 8)))]) (va_A [(h1, .inl (cB, n, .inl f))] sz)) 0 0 (va_A [(h1, .inl (cB, n, .inl f))] sz) := by
  refine Met.ofW (cc := cX2_longToBytes) (maxL := 6) (ret := none) (by decide) rfl ?_
  intro p e s m args below meth c s₁ B hml hv
  obtain ⟨rfl, hsz, hP, hK, hD0⟩ := hv
  have hx := B.exec
  have hb := B.bytes
  have hr := B.returns
  have hts := atoms_spec (ws := (ws_ yX2_longToBytes cX2_longToBytes 6 none)) B.pre
  have hts : ∀ w ∈ lw_all, w.before _ s = true := fun w h => hts w (List.mem_cons_of_mem _ h)
  have hown : s.vm.findClass RX2 = some m.cls := findClass_of_methodNamed B.named
  have hlocks := B.notSynchronized
  subst hsz
  have hD := hD0.self (sz := s.heap.size)
  generalize hAe : va_A [(h1, .inl (cB, n, .inl f))] s.heap.size = A at hD ⊢
  have hA : ∀ q : Nat, s.heap.size ≤ q → A q := fun q h => by rw [← hAe]; exact Or.inr h
  have hS : va_S A s.heap s.heap [] := va_S.rf
  have hP : va_P D sCl [(h1, .inl (cB, n, .inl f))] s.heap := hP
  have hl := lv_entry ([.ref h0, .ref h1, .int (nI off), .long v]) (n := 6) (Nat.le_of_ble_eq_true rfl)
  rw [lg_entry_eq]
  generalize (lg_sl ([.ref h0, .ref h1, .int (nI off), .long v]) ++ List.replicate (6 - (lg_sl ([.ref h0, .ref h1, .int (nI off), .long v])).length) Slot.unset).toArray = ls at hl ⊢
  have hl : lv_has ls 6 [(0, .ref h0), (1, .ref h1), (2, .int (nI off)), (3, .long v)] := hl
  refine lv_iconst (v := 0) hx hb dX2_longToBytes_0 (by decide) ?_
  refine lv_istore (lv' := [(5, .int 0), (0, .ref h0), (1, .ref h1), (2, .int (nI off)), (3, .long v)]) hx hb dX2_longToBytes_1 hl (by decide) rfl (fun ls hl => ?_)
  refine lp_for (fun i H locs ls => va_P D sCl [(h1, .inl (cB, n, .inl (sd_l2b f off v i)))] H ∧ va_D A [(h1, .inl (cB, n, .inl (sd_l2b f off v i)))] ∧ va_S A s.heap H locs ∧ lv_has ls 6 [(5, .int (nI i)), (0, .ref h0), (1, .ref h1), (2, .int (nI off)), (3, .long v)]) 8 (fun i H locs ls hi hI ih => ?_) (fun H locs ls hI => ?_) ⟨by rw [sd_l2b_0]; exact hP, by rw [sd_l2b_0]; exact hD, hS, lv_sub hl [0, 1, 2, 3, 4] rfl⟩
  · obtain ⟨hP, hD, hS, hl⟩ := hI
    refine lv_iload hx hb dX2_longToBytes_3 (lv_at hl 0 rfl) ?_
    refine lv_bipush (v := 8) hx hb dX2_longToBytes_5 (by decide) ?_
    refine lv_icmp_ge (tgt := 34) hx hb dX2_longToBytes_7 (by decide) (fun c0 => ?_) (fun c0 => ?_)
    · exact absurd c0 (nI_ge (by omega) (by omega) : ¬ nI 8 ≤ nI i)
    · refine lv_aload_n hx hb dX2_longToBytes_10 rfl (lv_at hl 2 rfl) ?_
      refine lv_iload hx hb dX2_longToBytes_11 (lv_at hl 0 rfl) ?_
      refine lv_iload_n hx hb dX2_longToBytes_13 rfl (lv_at hl 3 rfl) ?_
      refine lv_iadd hx hb dX2_longToBytes_14 ?_
      refine tp_i (y := nI (i + off)) (nI_add i off) ?_
      refine lv_lload_n hx hb dX2_longToBytes_15 rfl (lv_at hl 4 rfl) ?_
      refine lv_bipush (v := 7) hx hb dX2_longToBytes_16 (by decide) ?_
      refine lv_iload hx hb dX2_longToBytes_18 (lv_at hl 0 rfl) ?_
      refine lv_isub hx hb dX2_longToBytes_20 ?_
      refine lv_bipush (v := 8) hx hb dX2_longToBytes_21 (by decide) ?_
      refine lv_imul hx hb dX2_longToBytes_23 ?_
      refine lv_lshr hx hb dX2_longToBytes_24 rfl ?_
      refine lv_l2i hx hb dX2_longToBytes_25 rfl ?_
      refine lv_i2b hx hb dX2_longToBytes_26 rfl ?_
      refine tp_i (y := sd_by v i) rfl ?_
      refine va_bast hx hb hK hP hD hS 0 0 rfl rfl (vp_in_nI (show i + off < n by omega) hn2) dX2_longToBytes_27 (fun H locs hP hD hS => ?_)
      have hP : va_P D sCl [(h1, .inl (cB, n, .inl (sd_l2b f off v (i + 1))))] H := by rw [← (st_l2b f off v i (by omega))]; exact hP
      have hD : va_D A [(h1, .inl (cB, n, .inl (sd_l2b f off v (i + 1))))] := by rw [← (st_l2b f off v i (by omega))]; exact hD
      refine lv_iinc (v := nI (i + 1)) (lv' := [(5, .int (nI (i + 1))), (0, .ref h0), (1, .ref h1), (2, .int (nI off)), (3, .long v)]) hx hb dX2_longToBytes_28 hl (k := 0) rfl (nI_inc i) (by decide) rfl (fun ls hl => ?_)
      refine lv_goto (tgt := 3) hx hb dX2_longToBytes_31 (by decide) ?_
      exact ih H locs ls ⟨hP, hD, hS, lv_sub hl [0, 1, 2, 3, 4] rfl⟩
  · obtain ⟨hP, hD, hS, hl⟩ := hI
    refine lv_iload hx hb dX2_longToBytes_3 (lv_at hl 0 rfl) ?_
    refine lv_bipush (v := 8) hx hb dX2_longToBytes_5 (by decide) ?_
    refine lv_icmp_ge (tgt := 34) hx hb dX2_longToBytes_7 (by decide) (fun c0 => ?_) (fun c0 => ?_)
    · exact W.vret hx hb hr (fun t ht hW => ⟨⟨(), rfl, trivial, by rw [ht]; exact hP, hD⟩, hS.F ht⟩) hS.2.2 dX2_longToBytes_34
    · exact absurd (by decide : (8 : Int32) ≤ nI 8) c0
set_option maxHeartbeats 4000000 in
set_option maxRecDepth 100000 in
/-- KeyParameter(16): a new array -/
theorem mt_kp3 (l : Launch) (D : va_G) (cB cI : ClassId) (h0 sz : Nat) (v0 : Value) : Met l yX3_init_3 (ws_ yX3_init_3 cX3_init_3 2 none) ({ frames := 1, cells := 1, slots := 16, locals := 12 }) (va_Pc [.ref h0, .int 16] (px_ D [(h0, .inr (2, [v0]))] (tyBI cB cI) sz)) (va_Qv (fun _ : Nat => True) (fun u => wx_ D (va_A [(h0, .inr (2, [v0]))] sz) [(h0, .inr (2, [.ref u])), (u, .inl (cB, 16, .inl kn_z))]) (va_A [(h0, .inr (2, [v0]))] sz)) 1 16 (va_A [(h0, .inr (2, [v0]))] sz) := by
  refine Met.ofW (cc := cX3_init_3) (maxL := 2) (ret := none) (by decide) rfl ?_
  intro p e s m args below meth c s₁ B hml hv
  obtain ⟨rfl, hsz, hP, hK, hD0⟩ := hv
  have hx := B.exec
  have hb := B.bytes
  have hr := B.returns
  have hts := atoms_spec (ws := (ws_ yX3_init_3 cX3_init_3 2 none)) B.pre
  have hts : ∀ w ∈ lw_all, w.before _ s = true := fun w h => hts w (List.mem_cons_of_mem _ h)
  have hown : s.vm.findClass RX3 = some m.cls := findClass_of_methodNamed B.named
  have hlocks := B.notSynchronized
  have hin : meth.name = "<init>" := (name_of_methodNamed B.named B.method).1
  subst hsz
  have hD := hD0.self (sz := s.heap.size)
  generalize hAe : va_A [(h0, .inr (2, [v0]))] s.heap.size = A at hD ⊢
  have hA : ∀ q : Nat, s.heap.size ≤ q → A q := fun q h => by rw [← hAe]; exact Or.inr h
  have hS : va_S A s.heap s.heap [] := va_S.rf
  have hP : va_P D sCl [(h0, .inr (2, [v0]))] s.heap := hP
  have hl := lv_entry ([.ref h0, .int 16]) (n := 2) (Nat.le_of_ble_eq_true rfl)
  rw [lg_entry_eq]
  generalize (lg_sl ([.ref h0, .int 16]) ++ List.replicate (2 - (lg_sl ([.ref h0, .int 16])).length) Slot.unset).toArray = ls at hl ⊢
  have hl : lv_has ls 2 [(0, .ref h0), (1, .int 16)] := hl
  refine lv_aload_n hx hb dX3_init_3_0 rfl (lv_at hl 0 rfl) ?_
  refine W.objInit hx hb hown (hts _ q68) (hts _ q44) (hts _ q45) rfl (by rw [hml]; exact hl.1) rfl dX3_init_3_1 (Nat.le_of_ble_eq_true rfl) (Nat.le_of_ble_eq_true rfl) ?_
  refine W.eq (g2 := F0 m 4 ls []) rfl ?_
  refine lv_aload_n hx hb dX3_init_3_4 rfl (lv_at hl 0 rfl) ?_
  refine lv_iload_n hx hb dX3_init_3_5 rfl (lv_at hl 1 rfl) ?_
  refine va_newa (atype := .byte) (ty := .byte) (a0 := (16, .inl kn_z)) hx hb (hts _ q56) rfl hK hP hD hS hA (fun _ => rfl) (by decide) (by decide) (Nat.le_of_ble_eq_true rfl) (Nat.le_of_ble_eq_true rfl) (Nat.le_of_ble_eq_true rfl) dX3_init_3_6 (fun q1 cA H hK2 hP hD hS => ?_)
  have hq := ty_same hK2
  rw [hq] at hP hD
  have hP : va_P D sCl [(h0, .inr (2, [v0])), (q1, .inl (cB, 16, .inl kn_z))] H := hP
  have hD : va_D A [(h0, .inr (2, [v0])), (q1, .inl (cB, 16, .inl kn_z))] := hD
  refine W.widen (k := 1) (n := 16) (Nat.le_of_ble_eq_true rfl) (Nat.le_of_ble_eq_true rfl) ?_
  refine va_put (D := D) (ci := 2) (v := .ref q1) (ty := .array .byte) (C := RX3) (T := TX3) (N := 1) hx hb hts in_X3 tyX3 tyX3_ok nmX3 hown hK hP hD hS 0 rfl rfl 0 (by decide) (hts _ q69) (fun _ h9 => h9) rfl (by decide +kernel) rfl rfl (Nat.le_of_ble_eq_true rfl) dX3_init_3_8 (fun H locs hP hD hS => ?_)
  have hP : va_P D sCl [(h0, .inr (2, [.ref q1])), (q1, .inl (cB, 16, .inl kn_z))] H := hP
  have hD : va_D A [(h0, .inr (2, [.ref q1])), (q1, .inl (cB, 16, .inl kn_z))] := hD
  exact W.vret hx hb hr (fun t ht hW => ⟨⟨q1, rfl, trivial, by rw [ht]; exact hP, hD⟩, hS.F ht⟩) hS.2.2 dX3_init_3_11
set_option maxHeartbeats 4000000 in
set_option maxRecDepth 100000 in
/-- KeyParameter(k, 0, 16): a copy -/
theorem mt_kp2 (l : Launch) (D : va_G) (cB cI : ClassId) (h0 h1 sz : Nat) (v0 : Value) (f : Nat → Int32) (hf : ∀ i, i < 16 → fits .byte (.int (f i)) = true) : Met l yX3_init_2 (ws_ yX3_init_2 cX3_init_2 4 none) ({ frames := 2, cells := 1, slots := 16, locals := 64 }) (va_Pc [.ref h0, .ref h1, .int 0, .int 16] (px_ D [(h0, .inr (2, [v0])), (h1, .inl (cB, 16, .inl f))] (tyBI cB cI) sz)) (va_Qv (fun _ : Nat => True) (fun u => wx_ D (va_A [(h0, .inr (2, [v0])), (h1, .inl (cB, 16, .inl f))] sz) [(h0, .inr (2, [.ref u])), (h1, .inl (cB, 16, .inl f)), (u, .inl (cB, 16, .inl (sd_cp f)))]) (va_A [(h0, .inr (2, [v0])), (h1, .inl (cB, 16, .inl f))] sz)) 1 16 (va_A [(h0, .inr (2, [v0])), (h1, .inl (cB, 16, .inl f))] sz) := by
  refine Met.ofW (cc := cX3_init_2) (maxL := 4) (ret := none) (by decide) rfl ?_
  intro p e s m args below meth c s₁ B hml hv
  obtain ⟨rfl, hsz, hP, hK, hD0⟩ := hv
  have hx := B.exec
  have hb := B.bytes
  have hr := B.returns
  have hts := atoms_spec (ws := (ws_ yX3_init_2 cX3_init_2 4 none)) B.pre
  have hts : ∀ w ∈ lw_all, w.before _ s = true := fun w h => hts w (List.mem_cons_of_mem _ h)
  have hown : s.vm.findClass RX3 = some m.cls := findClass_of_methodNamed B.named
  have hlocks := B.notSynchronized
  have hin : meth.name = "<init>" := (name_of_methodNamed B.named B.method).1
  subst hsz
  have hD := hD0.self (sz := s.heap.size)
  generalize hAe : va_A [(h0, .inr (2, [v0])), (h1, .inl (cB, 16, .inl f))] s.heap.size = A at hD ⊢
  have hA : ∀ q : Nat, s.heap.size ≤ q → A q := fun q h => by rw [← hAe]; exact Or.inr h
  have hS : va_S A s.heap s.heap [] := va_S.rf
  have hP : va_P D sCl [(h0, .inr (2, [v0])), (h1, .inl (cB, 16, .inl f))] s.heap := hP
  have hl := lv_entry ([.ref h0, .ref h1, .int 0, .int 16]) (n := 4) (Nat.le_of_ble_eq_true rfl)
  rw [lg_entry_eq]
  generalize (lg_sl ([.ref h0, .ref h1, .int 0, .int 16]) ++ List.replicate (4 - (lg_sl ([.ref h0, .ref h1, .int 0, .int 16])).length) Slot.unset).toArray = ls at hl ⊢
  have hl : lv_has ls 4 [(0, .ref h0), (1, .ref h1), (2, .int 0), (3, .int 16)] := hl
  refine lv_aload_n hx hb dX3_init_2_0 rfl (lv_at hl 0 rfl) ?_
  refine lv_iload_n hx hb dX3_init_2_1 rfl (lv_at hl 3 rfl) ?_
  have hPc := hP.sub (ws' := [(h0, .inr (2, [v0]))]) [0] rfl
  have hDc := hD.sub (ws' := [(h0, .inr (2, [v0]))]) [0] (by decide) rfl
  have hFc := va_free (wc := [(h0, .inr (2, [v0]))]) hD hS hA [0] rfl
  refine va_callv (va_runI (As := [.int 16]) (rest := []) ⟨hx, hb, hml, hown, hts⟩ (mt_kp3 l D cB cI h0 _ v0) (cwI 1 hts (lw_meth q67) rfl rfl rfl (hts _ q16) (hts _ q65) (hts _ q66) rfl (by decide +kernel) ⟨Nat.le_of_ble_eq_true rfl, Nat.le_of_ble_eq_true rfl⟩) ⟨px_blind, px_at hPc hK hDc⟩ rfl rfl hl.1 rfl (lv_room (Nat.le_of_ble_eq_true rfl)) dX3_init_2_2 ⟨Nat.le_of_ble_eq_true rfl, Nat.le_of_ble_eq_true rfl⟩) hS (fun q _ h => hFc q h) hFc (fun q1 t H locs ht hvm hw hB hz1 hk1 hS => ?_)
  obtain ⟨hP1, hD1⟩ := hB
  rw [ht] at hP1
  obtain ⟨hP, hD⟩ := va_join (wr := [(h1, .inl (cB, 16, .inl f))]) (w1 := [(h0, .inr (2, [.ref q1])), (q1, .inl (cB, 16, .inl kn_z))]) hP hD [0] [1] rfl rfl (by decide) (by decide) hk1 hFc hP1 hD1
  have hP := hP.sub (ws' := [(h0, .inr (2, [.ref q1])), (h1, .inl (cB, 16, .inl f)), (q1, .inl (cB, 16, .inl kn_z))]) [1, 0, 2] rfl
  have hD := hD.sub (ws' := [(h0, .inr (2, [.ref q1])), (h1, .inl (cB, 16, .inl f)), (q1, .inl (cB, 16, .inl kn_z))]) [1, 0, 2] (by decide) rfl
  refine W.widen (k := 1) (n := 16) (Nat.le_of_ble_eq_true rfl) (Nat.le_of_ble_eq_true rfl) ?_
  refine lv_aload_n hx hb dX3_init_2_5 rfl (lv_at hl 1 rfl) ?_
  refine lv_iload_n hx hb dX3_init_2_6 rfl (lv_at hl 2 rfl) ?_
  refine lv_aload_n hx hb dX3_init_2_7 rfl (lv_at hl 0 rfl) ?_
  refine va_get (D := D) (ci := 2) (v := .ref q1) (C := RX3) (T := TX3) (N := 1) hx hb hts in_X3 hown hK hP 0 rfl rfl 0 (by decide) (hts _ q69) (fun _ h9 => h9) rfl dX3_init_2_8 ?_
  refine lv_iconst (v := 0) hx hb dX3_init_2_11 (by decide) ?_
  refine lv_iload_n hx hb dX3_init_2_12 rfl (lv_at hl 3 rfl) ?_
  refine va_copyi hx hb (by rw [hml]; exact hl.1.symm) hown (hts _ q73) (hts _ q75) (hts _ q74) (hts _ q17) hK hP hD hS 1 2 0 0 rfl rfl rfl rfl rfl (by decide) (by decide) (by decide) (by decide) (by decide) (fun i hi => by rw [show (0 : Int32).toNatClampNeg + i = i from Nat.zero_add i]; exact hf i hi) (Nat.le_of_ble_eq_true rfl) (by decide +kernel) dX3_init_2_13 (fun H locs hP hD hS => ?_)
  have hP : va_P D sCl [(h0, .inr (2, [.ref q1])), (h1, .inl (cB, 16, .inl f)), (q1, .inl (cB, 16, .inl (sd_cp f)))] H := hP
  have hD : va_D A [(h0, .inr (2, [.ref q1])), (h1, .inl (cB, 16, .inl f)), (q1, .inl (cB, 16, .inl (sd_cp f)))] := hD
  exact W.vret hx hb hr (fun t ht hW => ⟨⟨q1, rfl, trivial, by rw [ht]; exact hP, hD⟩, hS.F ht⟩) hS.2.2 dX3_init_2_16
set_option maxHeartbeats 4000000 in
set_option maxRecDepth 100000 in
/-- KeyParameter(k): a copy -/
theorem mt_kp (l : Launch) (D : va_G) (cB cI : ClassId) (h0 h1 sz : Nat) (v0 : Value) (f : Nat → Int32) (hf : ∀ i, i < 16 → fits .byte (.int (f i)) = true) : Met l yX3_init (ws_ yX3_init cX3_init 2 none) ({ frames := 3, cells := 1, slots := 16, locals := 87 }) (va_Pc [.ref h0, .ref h1] (px_ D [(h0, .inr (2, [v0])), (h1, .inl (cB, 16, .inl f))] (tyBI cB cI) sz)) (va_Qv (fun _ : Nat => True) (fun u => wx_ D (va_A [(h0, .inr (2, [v0])), (h1, .inl (cB, 16, .inl f))] sz) [(h0, .inr (2, [.ref u])), (h1, .inl (cB, 16, .inl f)), (u, .inl (cB, 16, .inl (sd_cp f)))]) (va_A [(h0, .inr (2, [v0])), (h1, .inl (cB, 16, .inl f))] sz)) 1 16 (va_A [(h0, .inr (2, [v0])), (h1, .inl (cB, 16, .inl f))] sz) := by
  refine Met.ofW (cc := cX3_init) (maxL := 2) (ret := none) (by decide) rfl ?_
  intro p e s m args below meth c s₁ B hml hv
  obtain ⟨rfl, hsz, hP, hK, hD0⟩ := hv
  have hx := B.exec
  have hb := B.bytes
  have hr := B.returns
  have hts := atoms_spec (ws := (ws_ yX3_init cX3_init 2 none)) B.pre
  have hts : ∀ w ∈ lw_all, w.before _ s = true := fun w h => hts w (List.mem_cons_of_mem _ h)
  have hown : s.vm.findClass RX3 = some m.cls := findClass_of_methodNamed B.named
  have hlocks := B.notSynchronized
  have hin : meth.name = "<init>" := (name_of_methodNamed B.named B.method).1
  subst hsz
  have hD := hD0.self (sz := s.heap.size)
  generalize hAe : va_A [(h0, .inr (2, [v0])), (h1, .inl (cB, 16, .inl f))] s.heap.size = A at hD ⊢
  have hA : ∀ q : Nat, s.heap.size ≤ q → A q := fun q h => by rw [← hAe]; exact Or.inr h
  have hS : va_S A s.heap s.heap [] := va_S.rf
  have hP : va_P D sCl [(h0, .inr (2, [v0])), (h1, .inl (cB, 16, .inl f))] s.heap := hP
  have hl := lv_entry ([.ref h0, .ref h1]) (n := 2) (Nat.le_of_ble_eq_true rfl)
  rw [lg_entry_eq]
  generalize (lg_sl ([.ref h0, .ref h1]) ++ List.replicate (2 - (lg_sl ([.ref h0, .ref h1])).length) Slot.unset).toArray = ls at hl ⊢
  have hl : lv_has ls 2 [(0, .ref h0), (1, .ref h1)] := hl
  refine lv_aload_n hx hb dX3_init_0 rfl (lv_at hl 0 rfl) ?_
  refine lv_aload_n hx hb dX3_init_1 rfl (lv_at hl 1 rfl) ?_
  refine lv_iconst (v := 0) hx hb dX3_init_2 (by decide) ?_
  refine lv_aload_n hx hb dX3_init_3 rfl (lv_at hl 1 rfl) ?_
  refine va_alen (v := 16) hx hb hK hP 1 0 rfl rfl rfl dX3_init_4 ?_
  have hPc := hP.sub (ws' := [(h0, .inr (2, [v0])), (h1, .inl (cB, 16, .inl f))]) [0, 1] rfl
  have hDc := hD.sub (ws' := [(h0, .inr (2, [v0])), (h1, .inl (cB, 16, .inl f))]) [0, 1] (by decide) rfl
  have hFc := va_free (wc := [(h0, .inr (2, [v0])), (h1, .inl (cB, 16, .inl f))]) hD hS hA [0, 1] rfl
  refine va_callv (va_runI (As := [.ref h1, .int 0, .int 16]) (rest := []) ⟨hx, hb, hml, hown, hts⟩ (mt_kp2 l D cB cI h0 h1 _ v0 f hf) (cwI 3 hts (lw_meth q64) rfl rfl rfl (hts _ q16) (hts _ q62) (hts _ q63) rfl (by decide +kernel) ⟨Nat.le_of_ble_eq_true rfl, Nat.le_of_ble_eq_true rfl⟩) ⟨px_blind, px_at hPc hK hDc⟩ rfl rfl hl.1 rfl (lv_room (Nat.le_of_ble_eq_true rfl)) dX3_init_5 ⟨Nat.le_of_ble_eq_true rfl, Nat.le_of_ble_eq_true rfl⟩) hS (fun q _ h => hFc q h) hFc (fun q1 t H locs ht hvm hw hB hz1 hk1 hS => ?_)
  obtain ⟨hP1, hD1⟩ := hB
  rw [ht] at hP1
  obtain ⟨hP, hD⟩ := va_join (wr := []) (w1 := [(h0, .inr (2, [.ref q1])), (h1, .inl (cB, 16, .inl f)), (q1, .inl (cB, 16, .inl (sd_cp f)))]) hP hD [0, 1] [] rfl rfl (by decide) (by decide) hk1 hFc hP1 hD1
  have hP := hP.sub (ws' := [(h0, .inr (2, [.ref q1])), (h1, .inl (cB, 16, .inl f)), (q1, .inl (cB, 16, .inl (sd_cp f)))]) [0, 1, 2] rfl
  have hD := hD.sub (ws' := [(h0, .inr (2, [.ref q1])), (h1, .inl (cB, 16, .inl f)), (q1, .inl (cB, 16, .inl (sd_cp f)))]) [0, 1, 2] (by decide) rfl
  refine W.widen (k := 1) (n := 16) (Nat.le_of_ble_eq_true rfl) (Nat.le_of_ble_eq_true rfl) ?_
  exact W.vret hx hb hr (fun t ht hW => ⟨⟨q1, rfl, trivial, by rw [ht]; exact hP, hD⟩, hS.F ht⟩) hS.2.2 dX3_init_8
set_option maxHeartbeats 4000000 in
set_option maxRecDepth 100000 in
/-- getKey -/
theorem mt_gk (l : Launch) (D : va_G) (ws : va_W) (tys : List (ClassId × FieldType)) (k h0 h1 : Nat) (hw : ws[k]? = some (h0, .inr (2, [.ref h1]))) : Met l yX3_getKey (ws_ yX3_getKey cX3_getKey 1 (some (.array .byte))) ({ frames := 0, cells := 0, slots := 0, locals := 0 }) (va_Pc [.ref h0] (pu_ D ws tys)) (va_Sr (fun z => z = h1) (fun z => .ref z)) 0 0 (fun _ => False) := by
  refine Met.ofW (cc := cX3_getKey) (maxL := 1) (ret := (some (.array .byte))) (by decide) rfl ?_
  intro p e s m args below meth c s₁ B hml hv
  obtain ⟨rfl, hP, hK⟩ := hv
  have hx := B.exec
  have hb := B.bytes
  have hr := B.returns
  have hts := atoms_spec (ws := (ws_ yX3_getKey cX3_getKey 1 (some (.array .byte)))) B.pre
  have hts : ∀ w ∈ lw_all, w.before _ s = true := fun w h => hts w (List.mem_cons_of_mem _ h)
  have hown : s.vm.findClass RX3 = some m.cls := findClass_of_methodNamed B.named
  have hlocks := B.notSynchronized
  have hS : va_S nn_ s.heap s.heap [] := va_S.rf
  have hl := lv_entry ([.ref h0]) (n := 1) (Nat.le_of_ble_eq_true rfl)
  rw [lg_entry_eq]
  generalize (lg_sl ([.ref h0]) ++ List.replicate (1 - (lg_sl ([.ref h0])).length) Slot.unset).toArray = ls at hl ⊢
  have hl : lv_has ls 1 [(0, .ref h0)] := hl
  refine lv_aload_n hx hb dX3_getKey_0 rfl (lv_at hl 0 rfl) ?_
  refine va_get (D := D) (ci := 2) (v := .ref h1) (C := RX3) (T := TX3) (N := 1) hx hb hts in_X3 hown hK hP k hw rfl 0 (by decide) (hts _ q69) (fun _ h9 => h9) rfl dX3_getKey_1 ?_
  exact W.aret (v := .ref h1) hx hb hr (Or.inr ⟨_, rfl⟩) (Or.inr ⟨_, rfl⟩) (fun t ht hW => ⟨h1, rfl, rfl, ht⟩) (fun q hq => by cases hq) dX3_getKey_4
set_option maxHeartbeats 4000000 in
set_option maxRecDepth 100000 in
/-- SEEDEngine() -/
theorem mt_se (l : Launch) (D : va_G) (cB cI : ClassId) (h0 sz : Nat) (v0 v1 v2 : Value) : Met l yX2_init (ws_ yX2_init cX2_init 1 none) ({ frames := 1, cells := 0, slots := 0, locals := 12 }) (va_Pc [.ref h0] (px_ D [(h0, .inr (1, [v0, v1, v2]))] (tyBI cB cI) sz)) (va_Qv (fun _ : Unit => True) (fun _ => wx_ D (va_A [(h0, .inr (1, [v0, v1, v2]))] sz) [(h0, .inr (1, [.int 16, v1, v2]))]) (va_A [(h0, .inr (1, [v0, v1, v2]))] sz)) 0 0 (va_A [(h0, .inr (1, [v0, v1, v2]))] sz) := by
  refine Met.ofW (cc := cX2_init) (maxL := 1) (ret := none) (by decide) rfl ?_
  intro p e s m args below meth c s₁ B hml hv
  obtain ⟨rfl, hsz, hP, hK, hD0⟩ := hv
  have hx := B.exec
  have hb := B.bytes
  have hr := B.returns
  have hts := atoms_spec (ws := (ws_ yX2_init cX2_init 1 none)) B.pre
  have hts : ∀ w ∈ lw_all, w.before _ s = true := fun w h => hts w (List.mem_cons_of_mem _ h)
  have hown : s.vm.findClass RX2 = some m.cls := findClass_of_methodNamed B.named
  have hlocks := B.notSynchronized
  have hin : meth.name = "<init>" := (name_of_methodNamed B.named B.method).1
  subst hsz
  have hD := hD0.self (sz := s.heap.size)
  generalize hAe : va_A [(h0, .inr (1, [v0, v1, v2]))] s.heap.size = A at hD ⊢
  have hA : ∀ q : Nat, s.heap.size ≤ q → A q := fun q h => by rw [← hAe]; exact Or.inr h
  have hS : va_S A s.heap s.heap [] := va_S.rf
  have hP : va_P D sCl [(h0, .inr (1, [v0, v1, v2]))] s.heap := hP
  have hl := lv_entry ([.ref h0]) (n := 1) (Nat.le_of_ble_eq_true rfl)
  rw [lg_entry_eq]
  generalize (lg_sl ([.ref h0]) ++ List.replicate (1 - (lg_sl ([.ref h0])).length) Slot.unset).toArray = ls at hl ⊢
  have hl : lv_has ls 1 [(0, .ref h0)] := hl
  refine lv_aload_n hx hb dX2_init_0 rfl (lv_at hl 0 rfl) ?_
  refine W.objInit hx hb hown (hts _ q43) (hts _ q44) (hts _ q45) rfl (by rw [hml]; exact hl.1) rfl dX2_init_1 (Nat.le_of_ble_eq_true rfl) (Nat.le_of_ble_eq_true rfl) ?_
  refine W.eq (g2 := F0 m 4 ls []) rfl ?_
  refine lv_aload_n hx hb dX2_init_4 rfl (lv_at hl 0 rfl) ?_
  refine lv_bipush (v := 16) hx hb dX2_init_5 (by decide) ?_
  refine va_putF (D := D) (ci := 1) (v := .int 16) (ty := .int) (C := RX2) (T := TX2) (N := 3) hx hb hts in_X2 tyX2 tyX2_ok nmX2 hown hK hP hD hS 0 rfl rfl 0 (by decide) (hts _ q46) (fun _ h9 => h9) rfl hin rfl (by decide +kernel) rfl rfl (Nat.le_of_ble_eq_true rfl) dX2_init_7 (fun H locs hP hD hS => ?_)
  have hP : va_P D sCl [(h0, .inr (1, [.int 16, v1, v2]))] H := hP
  have hD : va_D A [(h0, .inr (1, [.int 16, v1, v2]))] := hD
  exact W.vret hx hb hr (fun t ht hW => ⟨⟨(), rfl, trivial, by rw [ht]; exact hP, hD⟩, hS.F ht⟩) hS.2.2 dX2_init_10
set_option maxHeartbeats 4000000 in
set_option maxRecDepth 100000 in
/-- the key schedule -/
theorem mt_cw (l : Launch) (D : va_G) (cB cI : ClassId) (h0 h1 sz : Nat) (fs : List Value) (f : Nat → Int32) : Met l yX2_createWorkingKey (ws_ yX2_createWorkingKey cX2_createWorkingKey 12 (some (.array .int))) ({ frames := 1, cells := 1, slots := 32, locals := 25 }) (va_Pc [.ref h0, .ref h1] (py_ D [(h0, .inr (1, fs)), (h1, .inl (cB, 16, .inl f))] (tyBI cB cI) sz)) (va_Qr (fun _ : Unit => True) (fun _ a => wx_ D (va_A [(h0, .inr (1, fs)), (h1, .inl (cB, 16, .inl f))] sz) [(h0, .inr (1, fs)), (h1, .inl (cB, 16, .inl f)), (a, .inl (cI, 32, .inl (sd_key f)))]) (va_A [(h0, .inr (1, fs)), (h1, .inl (cB, 16, .inl f))] sz)) 1 32 (va_A [(h0, .inr (1, fs)), (h1, .inl (cB, 16, .inl f))] sz) := by
  refine Met.ofW (cc := cX2_createWorkingKey) (maxL := 12) (ret := (some (.array .int))) (by decide) rfl ?_
  intro p e s m args below meth c s₁ B hml hv
  obtain ⟨rfl, ⟨hsz, hP, hK, hD0⟩, hT0⟩ := hv
  have hx := B.exec
  have hb := B.bytes
  have hr := B.returns
  have hts := atoms_spec (ws := (ws_ yX2_createWorkingKey cX2_createWorkingKey 12 (some (.array .int)))) B.pre
  have hts : ∀ w ∈ lw_all, w.before _ s = true := fun w h => hts w (List.mem_cons_of_mem _ h)
  have hown : s.vm.findClass RX2 = some m.cls := findClass_of_methodNamed B.named
  have hlocks := B.notSynchronized
  subst hsz
  have hD := hD0.self (sz := s.heap.size)
  generalize hAe : va_A [(h0, .inr (1, fs)), (h1, .inl (cB, 16, .inl f))] s.heap.size = A at hD hT0 ⊢
  have hA : ∀ q : Nat, s.heap.size ≤ q → A q := fun q h => by rw [← hAe]; exact Or.inr h
  have hS : va_S A s.heap s.heap [] := va_S.rf
  have hP : va_P D sCl [(h0, .inr (1, fs)), (h1, .inl (cB, 16, .inl f))] s.heap := hP
  have hT : tb_ A s s.heap := hT0
  have hl := lv_entry ([.ref h0, .ref h1]) (n := 12) (Nat.le_of_ble_eq_true rfl)
  rw [lg_entry_eq]
  generalize (lg_sl ([.ref h0, .ref h1]) ++ List.replicate (12 - (lg_sl ([.ref h0, .ref h1])).length) Slot.unset).toArray = ls at hl ⊢
  have hl : lv_has ls 12 [(0, .ref h0), (1, .ref h1)] := hl
  refine lv_aload_n hx hb dX2_createWorkingKey_0 rfl (lv_at hl 1 rfl) ?_
  refine va_alen (v := 16) hx hb hK hP 1 0 rfl rfl rfl dX2_createWorkingKey_1 ?_
  refine lv_bipush (v := 16) hx hb dX2_createWorkingKey_2 (by decide) ?_
  refine lv_icmp_eq (tgt := 17) hx hb dX2_createWorkingKey_4 (by decide) (fun c0 => ?_) (fun c0 => ?_)
  · refine lv_bipush (v := 32) hx hb dX2_createWorkingKey_17 (by decide) ?_
    refine va_newa (atype := .int) (ty := .int) (a0 := (32, .inl kn_z)) hx hb (hts _ q222) rfl hK hP hD hS hA (fun _ => rfl) (by decide) (by decide) (Nat.le_of_ble_eq_true rfl) (Nat.le_of_ble_eq_true rfl) (Nat.le_of_ble_eq_true rfl) dX2_createWorkingKey_19 (fun q1 cA H hK2 hP hD hS => ?_)
    have hq := ty_sameI hK2
    rw [hq] at hP hD
    have hP : va_P D sCl [(h0, .inr (1, fs)), (h1, .inl (cB, 16, .inl f)), (q1, .inl (cI, 32, .inl kn_z))] H := hP
    have hD : va_D A [(h0, .inr (1, fs)), (h1, .inl (cB, 16, .inl f)), (q1, .inl (cI, 32, .inl kn_z))] := hD
    refine W.widen (k := 1) (n := 32) (Nat.le_of_ble_eq_true rfl) (Nat.le_of_ble_eq_true rfl) ?_
    refine lv_astore_n (lv' := [(2, .ref q1), (0, .ref h0), (1, .ref h1)]) hx hb dX2_createWorkingKey_21 rfl hl (by decide) rfl (fun ls hl => ?_)
    refine lv_aload_n hx hb dX2_createWorkingKey_22 rfl (lv_at hl 1 rfl) ?_
    refine lv_aload_n hx hb dX2_createWorkingKey_23 rfl (lv_at hl 2 rfl) ?_
    refine lv_iconst (v := 0) hx hb dX2_createWorkingKey_24 (by decide) ?_
    have hTn := tb_here (B := nn_) hT hS (fun _ h => h.elim)
    refine tp_i (y := nI 0) rfl ?_
    refine cs_l (W.runV (As := [.ref h1, .int (nI 0)]) (rest := []) ⟨hx, hb, hml, hown, hts⟩ (mt_b2l l D _ cB cI 1 h0 h1 16 0 f rfl (by decide) (by decide)) (cwV 2 hts (lw_V q163 q165 qs3 q15 q166) rfl rfl rfl (by decide +kernel) ⟨Nat.le_of_ble_eq_true rfl, Nat.le_of_ble_eq_true rfl⟩) ⟨pu_blind, va_recv hK hP (ci := 1) (q0 := 0) rfl rfl, pu_at hP hK⟩ rfl rfl hl.1 rfl (lv_room (Nat.le_of_ble_eq_true rfl)) dX2_createWorkingKey_25 ⟨Nat.le_of_ble_eq_true rfl, Nat.le_of_ble_eq_true rfl⟩) ?_
    refine lv_lstore_n (lv' := [(3, .long (sd_b2l f 0)), (2, .ref q1), (0, .ref h0), (1, .ref h1)]) hx hb dX2_createWorkingKey_28 rfl hl (by decide) rfl (fun ls hl => ?_)
    refine lv_aload_n hx hb dX2_createWorkingKey_29 rfl (lv_at hl 2 rfl) ?_
    refine lv_aload_n hx hb dX2_createWorkingKey_30 rfl (lv_at hl 3 rfl) ?_
    refine lv_bipush (v := 8) hx hb dX2_createWorkingKey_31 (by decide) ?_
    refine tp_i (y := nI 8) rfl ?_
    refine cs_l (W.runV (As := [.ref h1, .int (nI 8)]) (rest := []) ⟨hx, hb, hml, hown, hts⟩ (mt_b2l l D _ cB cI 1 h0 h1 16 8 f rfl (by decide) (by decide)) (cwV 2 hts (lw_V q163 q165 qs3 q15 q166) rfl rfl rfl (by decide +kernel) ⟨Nat.le_of_ble_eq_true rfl, Nat.le_of_ble_eq_true rfl⟩) ⟨pu_blind, va_recv hK hP (ci := 1) (q0 := 0) rfl rfl, pu_at hP hK⟩ rfl rfl hl.1 rfl (lv_room (Nat.le_of_ble_eq_true rfl)) dX2_createWorkingKey_33 ⟨Nat.le_of_ble_eq_true rfl, Nat.le_of_ble_eq_true rfl⟩) ?_
    refine lv_lstore (lv' := [(5, .long (sd_b2l f 8)), (3, .long (sd_b2l f 0)), (2, .ref q1), (0, .ref h0), (1, .ref h1)]) hx hb dX2_createWorkingKey_36 hl (by decide) rfl (fun ls hl => ?_)
    refine lv_aload_n hx hb dX2_createWorkingKey_38 rfl (lv_at hl 3 rfl) ?_
    refine lv_lload_n hx hb dX2_createWorkingKey_39 rfl (lv_at hl 1 rfl) ?_
    refine cs_i (W.runV (As := [.long (sd_b2l f 0)]) (rest := []) ⟨hx, hb, hml, hown, hts⟩ (mt_w0 l D _ _ h0 (sd_b2l f 0)) (cwV 1 hts (lw_V q167 q169 qs4 q15 q170) rfl rfl rfl (by decide +kernel) ⟨Nat.le_of_ble_eq_true rfl, Nat.le_of_ble_eq_true rfl⟩) ⟨pu_blind, va_recv hK hP (ci := 1) (q0 := 0) rfl rfl, pu_at hP hK⟩ rfl rfl hl.1 rfl (lv_room (Nat.le_of_ble_eq_true rfl)) dX2_createWorkingKey_40 ⟨Nat.le_of_ble_eq_true rfl, Nat.le_of_ble_eq_true rfl⟩) ?_
    refine lv_istore (lv' := [(7, .int (sd_w0 (sd_b2l f 0))), (5, .long (sd_b2l f 8)), (3, .long (sd_b2l f 0)), (2, .ref q1), (0, .ref h0), (1, .ref h1)]) hx hb dX2_createWorkingKey_43 hl (by decide) rfl (fun ls hl => ?_)
    refine lv_aload_n hx hb dX2_createWorkingKey_45 rfl (lv_at hl 4 rfl) ?_
    refine lv_lload_n hx hb dX2_createWorkingKey_46 rfl (lv_at hl 2 rfl) ?_
    refine cs_i (W.runV (As := [.long (sd_b2l f 0)]) (rest := []) ⟨hx, hb, hml, hown, hts⟩ (mt_w1 l D _ _ h0 (sd_b2l f 0)) (cwV 1 hts (lw_V q171 q173 qs5 q15 q174) rfl rfl rfl (by decide +kernel) ⟨Nat.le_of_ble_eq_true rfl, Nat.le_of_ble_eq_true rfl⟩) ⟨pu_blind, va_recv hK hP (ci := 1) (q0 := 0) rfl rfl, pu_at hP hK⟩ rfl rfl hl.1 rfl (lv_room (Nat.le_of_ble_eq_true rfl)) dX2_createWorkingKey_47 ⟨Nat.le_of_ble_eq_true rfl, Nat.le_of_ble_eq_true rfl⟩) ?_
    refine lv_istore (lv' := [(8, .int (sd_w1 (sd_b2l f 0))), (7, .int (sd_w0 (sd_b2l f 0))), (5, .long (sd_b2l f 8)), (3, .long (sd_b2l f 0)), (2, .ref q1), (0, .ref h0), (1, .ref h1)]) hx hb dX2_createWorkingKey_50 hl (by decide) rfl (fun ls hl => ?_)
    refine lv_aload_n hx hb dX2_createWorkingKey_52 rfl (lv_at hl 5 rfl) ?_
    refine lv_lload hx hb dX2_createWorkingKey_53 (lv_at hl 2 rfl) ?_
    refine cs_i (W.runV (As := [.long (sd_b2l f 8)]) (rest := []) ⟨hx, hb, hml, hown, hts⟩ (mt_w0 l D _ _ h0 (sd_b2l f 8)) (cwV 1 hts (lw_V q167 q169 qs4 q15 q170) rfl rfl rfl (by decide +kernel) ⟨Nat.le_of_ble_eq_true rfl, Nat.le_of_ble_eq_true rfl⟩) ⟨pu_blind, va_recv hK hP (ci := 1) (q0 := 0) rfl rfl, pu_at hP hK⟩ rfl rfl hl.1 rfl (lv_room (Nat.le_of_ble_eq_true rfl)) dX2_createWorkingKey_55 ⟨Nat.le_of_ble_eq_true rfl, Nat.le_of_ble_eq_true rfl⟩) ?_
    refine lv_istore (lv' := [(9, .int (sd_w0 (sd_b2l f 8))), (8, .int (sd_w1 (sd_b2l f 0))), (7, .int (sd_w0 (sd_b2l f 0))), (5, .long (sd_b2l f 8)), (3, .long (sd_b2l f 0)), (2, .ref q1), (0, .ref h0), (1, .ref h1)]) hx hb dX2_createWorkingKey_58 hl (by decide) rfl (fun ls hl => ?_)
    refine lv_aload_n hx hb dX2_createWorkingKey_60 rfl (lv_at hl 6 rfl) ?_
    refine lv_lload hx hb dX2_createWorkingKey_61 (lv_at hl 3 rfl) ?_
    refine cs_i (W.runV (As := [.long (sd_b2l f 8)]) (rest := []) ⟨hx, hb, hml, hown, hts⟩ (mt_w1 l D _ _ h0 (sd_b2l f 8)) (cwV 1 hts (lw_V q171 q173 qs5 q15 q174) rfl rfl rfl (by decide +kernel) ⟨Nat.le_of_ble_eq_true rfl, Nat.le_of_ble_eq_true rfl⟩) ⟨pu_blind, va_recv hK hP (ci := 1) (q0 := 0) rfl rfl, pu_at hP hK⟩ rfl rfl hl.1 rfl (lv_room (Nat.le_of_ble_eq_true rfl)) dX2_createWorkingKey_63 ⟨Nat.le_of_ble_eq_true rfl, Nat.le_of_ble_eq_true rfl⟩) ?_
    refine lv_istore (lv' := [(10, .int (sd_w1 (sd_b2l f 8))), (9, .int (sd_w0 (sd_b2l f 8))), (8, .int (sd_w1 (sd_b2l f 0))), (7, .int (sd_w0 (sd_b2l f 0))), (5, .long (sd_b2l f 8)), (3, .long (sd_b2l f 0)), (2, .ref q1), (0, .ref h0), (1, .ref h1)]) hx hb dX2_createWorkingKey_66 hl (by decide) rfl (fun ls hl => ?_)
    refine lv_iconst (v := 0) hx hb dX2_createWorkingKey_68 (by decide) ?_
    refine lv_istore (lv' := [(11, .int 0), (10, .int (sd_w1 (sd_b2l f 8))), (9, .int (sd_w0 (sd_b2l f 8))), (8, .int (sd_w1 (sd_b2l f 0))), (7, .int (sd_w0 (sd_b2l f 0))), (5, .long (sd_b2l f 8)), (3, .long (sd_b2l f 0)), (2, .ref q1), (0, .ref h0), (1, .ref h1)]) hx hb dX2_createWorkingKey_69 hl (by decide) rfl (fun ls hl => ?_)
    refine lp_for (fun i H locs ls => va_P D sCl [(h0, .inr (1, fs)), (h1, .inl (cB, 16, .inl f)), (q1, .inl (cI, 32, .inl (sd_rk (sd_b2l f 0) (sd_b2l f 8) i)))] H ∧ va_D A [(h0, .inr (1, fs)), (h1, .inl (cB, 16, .inl f)), (q1, .inl (cI, 32, .inl (sd_rk (sd_b2l f 0) (sd_b2l f 8) i)))] ∧ va_S A s.heap H locs ∧ lv_has ls 12 [(11, .int (nI i)), (10, .int (sd_w1 (sd_ks (sd_b2l f 0) (sd_b2l f 8) i).2)), (9, .int (sd_w0 (sd_ks (sd_b2l f 0) (sd_b2l f 8) i).2)), (8, .int (sd_w1 (sd_ks (sd_b2l f 0) (sd_b2l f 8) i).1)), (7, .int (sd_w0 (sd_ks (sd_b2l f 0) (sd_b2l f 8) i).1)), (5, .long (sd_ks (sd_b2l f 0) (sd_b2l f 8) i).2), (3, .long (sd_ks (sd_b2l f 0) (sd_b2l f 8) i).1), (2, .ref q1), (0, .ref h0), (1, .ref h1)]) 16 (fun i H locs ls hi hI ih => ?_) (fun H locs ls hI => ?_) ⟨by rw [sd_rk_0]; exact hP, by rw [sd_rk_0]; exact hD, hS, lv_sub hl [0, 1, 2, 3, 4, 5, 6, 7, 8, 9] rfl⟩
    · obtain ⟨hP, hD, hS, hl⟩ := hI
      have hTn := tb_here (B := nn_) hT hS (fun _ h => h.elim)
      obtain ⟨-, -, -, -, ⟨t4, hz4, ht4⟩⟩ := id hT
      refine lv_iload hx hb dX2_createWorkingKey_71 (lv_at hl 0 rfl) ?_
      refine lv_bipush (v := 16) hx hb dX2_createWorkingKey_73 (by decide) ?_
      refine lv_icmp_ge (tgt := 184) hx hb dX2_createWorkingKey_75 (by decide) (fun c1 => ?_) (fun c1 => ?_)
      · exact absurd c1 (nI_ge (by omega) (by omega) : ¬ nI 16 ≤ nI i)
      · refine lv_aload_n hx hb dX2_createWorkingKey_78 rfl (lv_at hl 7 rfl) ?_
        refine lv_iconst (v := 2) hx hb dX2_createWorkingKey_79 (by decide) ?_
        refine lv_iload hx hb dX2_createWorkingKey_80 (lv_at hl 0 rfl) ?_
        refine lv_imul hx hb dX2_createWorkingKey_82 ?_
        refine tp_i (y := nI (2 * i)) (pk_mul 2 i) ?_
        refine lv_aload_n hx hb dX2_createWorkingKey_83 rfl (lv_at hl 8 rfl) ?_
        refine lv_iload hx hb dX2_createWorkingKey_84 (lv_at hl 4 rfl) ?_
        refine lv_iload hx hb dX2_createWorkingKey_86 (lv_at hl 2 rfl) ?_
        refine lv_iadd hx hb dX2_createWorkingKey_88 ?_
        refine va_gets hx hb hz4 hS hown (hts _ q175) (fun _ h9 => h9) dX2_createWorkingKey_89 ?_
        refine lv_iload hx hb dX2_createWorkingKey_92 (lv_at hl 0 rfl) ?_
        refine va_ti (v := .int (sd_kc i)) hx hb ht4 hS (vp_in_nI hi (by decide)) (by rw [nI_clamp (by omega)]) dX2_createWorkingKey_94 ?_
        refine lv_isub hx hb dX2_createWorkingKey_95 ?_
        refine cs_i (W.runV (As := [.int (((sd_w0 (sd_ks (sd_b2l f 0) (sd_b2l f 8) i).1) + (sd_w0 (sd_ks (sd_b2l f 0) (sd_b2l f 8) i).2)) - (sd_kc i))]) (rest := [.int (nI (2 * i)), .ref q1]) ⟨hx, hb, hml, hown, hts⟩ (mt_G l D _ _ h0 (((sd_w0 (sd_ks (sd_b2l f 0) (sd_b2l f 8) i).1) + (sd_w0 (sd_ks (sd_b2l f 0) (sd_b2l f 8) i).2)) - (sd_kc i))) (cwV 1 hts (lw_V q177 q179 qs6 q15 q180) rfl rfl rfl (by decide +kernel) ⟨Nat.le_of_ble_eq_true rfl, Nat.le_of_ble_eq_true rfl⟩) ⟨pt_blind, va_recv hK hP (ci := 1) (q0 := 0) rfl rfl, pt_at hP hK hTn⟩ rfl rfl hl.1 rfl (lv_room (Nat.le_of_ble_eq_true rfl)) dX2_createWorkingKey_96 ⟨Nat.le_of_ble_eq_true rfl, Nat.le_of_ble_eq_true rfl⟩) ?_
        refine tp_i (y := sd_k0 (sd_b2l f 0) (sd_b2l f 8) i) rfl ?_
        refine va_iast hx hb hK hP hD hS 2 1 rfl rfl (vp_in_nI (show 2 * i < 32 by omega) (by decide)) dX2_createWorkingKey_99 (fun H locs hP hD hS => ?_)
        have hP : va_P D sCl [(h0, .inr (1, fs)), (h1, .inl (cB, 16, .inl f)), (q1, .inl (cI, 32, .inl (upd (sd_rk (sd_b2l f 0) (sd_b2l f 8) i) (nI (2 * i)).toNatClampNeg (sd_k0 (sd_b2l f 0) (sd_b2l f 8) i))))] H := hP
        have hD : va_D A [(h0, .inr (1, fs)), (h1, .inl (cB, 16, .inl f)), (q1, .inl (cI, 32, .inl (upd (sd_rk (sd_b2l f 0) (sd_b2l f 8) i) (nI (2 * i)).toNatClampNeg (sd_k0 (sd_b2l f 0) (sd_b2l f 8) i))))] := hD
        refine lv_aload_n hx hb dX2_createWorkingKey_100 rfl (lv_at hl 7 rfl) ?_
        refine lv_iconst (v := 2) hx hb dX2_createWorkingKey_101 (by decide) ?_
        refine lv_iload hx hb dX2_createWorkingKey_102 (lv_at hl 0 rfl) ?_
        refine lv_imul hx hb dX2_createWorkingKey_104 ?_
        refine tp_i (y := nI (2 * i)) (pk_mul 2 i) ?_
        refine lv_iconst (v := 1) hx hb dX2_createWorkingKey_105 (by decide) ?_
        refine lv_iadd hx hb dX2_createWorkingKey_106 ?_
        refine tp_i (y := nI (2 * i + 1)) (nI_1 (2 * i)) ?_
        refine lv_aload_n hx hb dX2_createWorkingKey_107 rfl (lv_at hl 8 rfl) ?_
        refine lv_iload hx hb dX2_createWorkingKey_108 (lv_at hl 3 rfl) ?_
        refine lv_iload hx hb dX2_createWorkingKey_110 (lv_at hl 1 rfl) ?_
        refine lv_isub hx hb dX2_createWorkingKey_112 ?_
        refine va_gets hx hb hz4 hS hown (hts _ q175) (fun _ h9 => h9) dX2_createWorkingKey_113 ?_
        refine lv_iload hx hb dX2_createWorkingKey_116 (lv_at hl 0 rfl) ?_
        refine va_ti (v := .int (sd_kc i)) hx hb ht4 hS (vp_in_nI hi (by decide)) (by rw [nI_clamp (by omega)]) dX2_createWorkingKey_118 ?_
        refine lv_iadd hx hb dX2_createWorkingKey_119 ?_
        have hTn := tb_here (B := nn_) hT hS (fun _ h => h.elim)
        refine cs_i (W.runV (As := [.int (((sd_w1 (sd_ks (sd_b2l f 0) (sd_b2l f 8) i).1) - (sd_w1 (sd_ks (sd_b2l f 0) (sd_b2l f 8) i).2)) + (sd_kc i))]) (rest := [.int (nI (2 * i + 1)), .ref q1]) ⟨hx, hb, hml, hown, hts⟩ (mt_G l D _ _ h0 (((sd_w1 (sd_ks (sd_b2l f 0) (sd_b2l f 8) i).1) - (sd_w1 (sd_ks (sd_b2l f 0) (sd_b2l f 8) i).2)) + (sd_kc i))) (cwV 1 hts (lw_V q177 q179 qs6 q15 q180) rfl rfl rfl (by decide +kernel) ⟨Nat.le_of_ble_eq_true rfl, Nat.le_of_ble_eq_true rfl⟩) ⟨pt_blind, va_recv hK hP (ci := 1) (q0 := 0) rfl rfl, pt_at hP hK hTn⟩ rfl rfl hl.1 rfl (lv_room (Nat.le_of_ble_eq_true rfl)) dX2_createWorkingKey_120 ⟨Nat.le_of_ble_eq_true rfl, Nat.le_of_ble_eq_true rfl⟩) ?_
        refine tp_i (y := sd_k1 (sd_b2l f 0) (sd_b2l f 8) i) rfl ?_
        refine va_iast hx hb hK hP hD hS 2 1 rfl rfl (vp_in_nI (show 2 * i + 1 < 32 by omega) (by decide)) dX2_createWorkingKey_123 (fun H locs hP hD hS => ?_)
        have hP : va_P D sCl [(h0, .inr (1, fs)), (h1, .inl (cB, 16, .inl f)), (q1, .inl (cI, 32, .inl (sd_rk (sd_b2l f 0) (sd_b2l f 8) (i + 1))))] H := by rw [← (sd_rk_s (sd_b2l f 0) (sd_b2l f 8) i hi)]; exact hP
        have hD : va_D A [(h0, .inr (1, fs)), (h1, .inl (cB, 16, .inl f)), (q1, .inl (cI, 32, .inl (sd_rk (sd_b2l f 0) (sd_b2l f 8) (i + 1))))] := by rw [← (sd_rk_s (sd_b2l f 0) (sd_b2l f 8) i hi)]; exact hD
        refine lv_iload hx hb dX2_createWorkingKey_124 (lv_at hl 0 rfl) ?_
        refine lv_iconst (v := 2) hx hb dX2_createWorkingKey_126 (by decide) ?_
        refine lv_irem hx hb dX2_createWorkingKey_127 (by decide) ?_
        refine tp_i (y := nI (i % 2)) (pk_rem (d := 2) (by omega) (by decide) (by decide)) ?_
        refine lv_if_ne (tgt := 154) hx hb dX2_createWorkingKey_128 (by decide) (fun c2 => ?_) (fun c2 => ?_)
        · have hz : ¬ i % 2 = 0 := fun h => c2 (by rw [h]; rfl)
          refine lv_aload_n hx hb dX2_createWorkingKey_154 rfl (lv_at hl 8 rfl) ?_
          refine lv_lload hx hb dX2_createWorkingKey_155 (lv_at hl 5 rfl) ?_
          refine cs_l (W.runV (As := [.long (sd_ks (sd_b2l f 0) (sd_b2l f 8) i).2]) (rest := []) ⟨hx, hb, hml, hown, hts⟩ (mt_rL l D _ _ h0 (sd_ks (sd_b2l f 0) (sd_b2l f 8) i).2) (cwV 1 hts (lw_V q193 q195 qs8 q15 q196) rfl rfl rfl (by decide +kernel) ⟨Nat.le_of_ble_eq_true rfl, Nat.le_of_ble_eq_true rfl⟩) ⟨pu_blind, va_recv hK hP (ci := 1) (q0 := 0) rfl rfl, pu_at hP hK⟩ rfl rfl hl.1 rfl (lv_room (Nat.le_of_ble_eq_true rfl)) dX2_createWorkingKey_157 ⟨Nat.le_of_ble_eq_true rfl, Nat.le_of_ble_eq_true rfl⟩) ?_
          refine lv_lstore (lv' := [(5, .long (sd_rL (sd_ks (sd_b2l f 0) (sd_b2l f 8) i).2)), (11, .int (nI i)), (10, .int (sd_w1 (sd_ks (sd_b2l f 0) (sd_b2l f 8) i).2)), (9, .int (sd_w0 (sd_ks (sd_b2l f 0) (sd_b2l f 8) i).2)), (8, .int (sd_w1 (sd_ks (sd_b2l f 0) (sd_b2l f 8) i).1)), (7, .int (sd_w0 (sd_ks (sd_b2l f 0) (sd_b2l f 8) i).1)), (3, .long (sd_ks (sd_b2l f 0) (sd_b2l f 8) i).1), (2, .ref q1), (0, .ref h0), (1, .ref h1)]) hx hb dX2_createWorkingKey_160 hl (by decide) rfl (fun ls hl => ?_)
          refine lv_aload_n hx hb dX2_createWorkingKey_162 rfl (lv_at hl 8 rfl) ?_
          refine lv_lload hx hb dX2_createWorkingKey_163 (lv_at hl 0 rfl) ?_
          refine cs_i (W.runV (As := [.long (sd_rL (sd_ks (sd_b2l f 0) (sd_b2l f 8) i).2)]) (rest := []) ⟨hx, hb, hml, hown, hts⟩ (mt_w0 l D _ _ h0 (sd_rL (sd_ks (sd_b2l f 0) (sd_b2l f 8) i).2)) (cwV 1 hts (lw_V q167 q169 qs4 q15 q170) rfl rfl rfl (by decide +kernel) ⟨Nat.le_of_ble_eq_true rfl, Nat.le_of_ble_eq_true rfl⟩) ⟨pu_blind, va_recv hK hP (ci := 1) (q0 := 0) rfl rfl, pu_at hP hK⟩ rfl rfl hl.1 rfl (lv_room (Nat.le_of_ble_eq_true rfl)) dX2_createWorkingKey_165 ⟨Nat.le_of_ble_eq_true rfl, Nat.le_of_ble_eq_true rfl⟩) ?_
          refine lv_istore (lv' := [(9, .int (sd_w0 (sd_rL (sd_ks (sd_b2l f 0) (sd_b2l f 8) i).2))), (5, .long (sd_rL (sd_ks (sd_b2l f 0) (sd_b2l f 8) i).2)), (11, .int (nI i)), (10, .int (sd_w1 (sd_ks (sd_b2l f 0) (sd_b2l f 8) i).2)), (8, .int (sd_w1 (sd_ks (sd_b2l f 0) (sd_b2l f 8) i).1)), (7, .int (sd_w0 (sd_ks (sd_b2l f 0) (sd_b2l f 8) i).1)), (3, .long (sd_ks (sd_b2l f 0) (sd_b2l f 8) i).1), (2, .ref q1), (0, .ref h0), (1, .ref h1)]) hx hb dX2_createWorkingKey_168 hl (by decide) rfl (fun ls hl => ?_)
          refine lv_aload_n hx hb dX2_createWorkingKey_170 rfl (lv_at hl 8 rfl) ?_
          refine lv_lload hx hb dX2_createWorkingKey_171 (lv_at hl 1 rfl) ?_
          refine cs_i (W.runV (As := [.long (sd_rL (sd_ks (sd_b2l f 0) (sd_b2l f 8) i).2)]) (rest := []) ⟨hx, hb, hml, hown, hts⟩ (mt_w1 l D _ _ h0 (sd_rL (sd_ks (sd_b2l f 0) (sd_b2l f 8) i).2)) (cwV 1 hts (lw_V q171 q173 qs5 q15 q174) rfl rfl rfl (by decide +kernel) ⟨Nat.le_of_ble_eq_true rfl, Nat.le_of_ble_eq_true rfl⟩) ⟨pu_blind, va_recv hK hP (ci := 1) (q0 := 0) rfl rfl, pu_at hP hK⟩ rfl rfl hl.1 rfl (lv_room (Nat.le_of_ble_eq_true rfl)) dX2_createWorkingKey_173 ⟨Nat.le_of_ble_eq_true rfl, Nat.le_of_ble_eq_true rfl⟩) ?_
          refine lv_istore (lv' := [(10, .int (sd_w1 (sd_rL (sd_ks (sd_b2l f 0) (sd_b2l f 8) i).2))), (9, .int (sd_w0 (sd_rL (sd_ks (sd_b2l f 0) (sd_b2l f 8) i).2))), (5, .long (sd_rL (sd_ks (sd_b2l f 0) (sd_b2l f 8) i).2)), (11, .int (nI i)), (8, .int (sd_w1 (sd_ks (sd_b2l f 0) (sd_b2l f 8) i).1)), (7, .int (sd_w0 (sd_ks (sd_b2l f 0) (sd_b2l f 8) i).1)), (3, .long (sd_ks (sd_b2l f 0) (sd_b2l f 8) i).1), (2, .ref q1), (0, .ref h0), (1, .ref h1)]) hx hb dX2_createWorkingKey_176 hl (by decide) rfl (fun ls hl => ?_)
          refine lv_iinc (v := nI (i + 1)) (lv' := [(11, .int (nI (i + 1))), (10, .int (sd_w1 (sd_rL (sd_ks (sd_b2l f 0) (sd_b2l f 8) i).2))), (9, .int (sd_w0 (sd_rL (sd_ks (sd_b2l f 0) (sd_b2l f 8) i).2))), (5, .long (sd_rL (sd_ks (sd_b2l f 0) (sd_b2l f 8) i).2)), (8, .int (sd_w1 (sd_ks (sd_b2l f 0) (sd_b2l f 8) i).1)), (7, .int (sd_w0 (sd_ks (sd_b2l f 0) (sd_b2l f 8) i).1)), (3, .long (sd_ks (sd_b2l f 0) (sd_b2l f 8) i).1), (2, .ref q1), (0, .ref h0), (1, .ref h1)]) hx hb dX2_createWorkingKey_178 hl (k := 3) rfl (nI_inc i) (by decide) rfl (fun ls hl => ?_)
          refine lv_goto (tgt := 71) hx hb dX2_createWorkingKey_181 (by decide) ?_
          exact ih H locs ls ⟨hP, hD, hS, by rw [sd_ks_o _ _ hz]; exact lv_sub hl [0, 1, 2, 4, 5, 3, 6, 7, 8, 9] rfl⟩
        · have hz : i % 2 = 0 := by
            rcases Nat.mod_two_eq_zero_or_one i with h | h
            · exact h
            · rw [h] at c2; exact absurd c2 (by decide)
          refine lv_aload_n hx hb dX2_createWorkingKey_131 rfl (lv_at hl 8 rfl) ?_
          refine lv_lload_n hx hb dX2_createWorkingKey_132 rfl (lv_at hl 6 rfl) ?_
          refine cs_l (W.runV (As := [.long (sd_ks (sd_b2l f 0) (sd_b2l f 8) i).1]) (rest := []) ⟨hx, hb, hml, hown, hts⟩ (mt_rR l D _ _ h0 (sd_ks (sd_b2l f 0) (sd_b2l f 8) i).1) (cwV 1 hts (lw_V q189 q191 qs7 q15 q192) rfl rfl rfl (by decide +kernel) ⟨Nat.le_of_ble_eq_true rfl, Nat.le_of_ble_eq_true rfl⟩) ⟨pu_blind, va_recv hK hP (ci := 1) (q0 := 0) rfl rfl, pu_at hP hK⟩ rfl rfl hl.1 rfl (lv_room (Nat.le_of_ble_eq_true rfl)) dX2_createWorkingKey_133 ⟨Nat.le_of_ble_eq_true rfl, Nat.le_of_ble_eq_true rfl⟩) ?_
          refine lv_lstore_n (lv' := [(3, .long (sd_rR (sd_ks (sd_b2l f 0) (sd_b2l f 8) i).1)), (11, .int (nI i)), (10, .int (sd_w1 (sd_ks (sd_b2l f 0) (sd_b2l f 8) i).2)), (9, .int (sd_w0 (sd_ks (sd_b2l f 0) (sd_b2l f 8) i).2)), (8, .int (sd_w1 (sd_ks (sd_b2l f 0) (sd_b2l f 8) i).1)), (7, .int (sd_w0 (sd_ks (sd_b2l f 0) (sd_b2l f 8) i).1)), (5, .long (sd_ks (sd_b2l f 0) (sd_b2l f 8) i).2), (2, .ref q1), (0, .ref h0), (1, .ref h1)]) hx hb dX2_createWorkingKey_136 rfl hl (by decide) rfl (fun ls hl => ?_)
          refine lv_aload_n hx hb dX2_createWorkingKey_137 rfl (lv_at hl 8 rfl) ?_
          refine lv_lload_n hx hb dX2_createWorkingKey_138 rfl (lv_at hl 0 rfl) ?_
          refine cs_i (W.runV (As := [.long (sd_rR (sd_ks (sd_b2l f 0) (sd_b2l f 8) i).1)]) (rest := []) ⟨hx, hb, hml, hown, hts⟩ (mt_w0 l D _ _ h0 (sd_rR (sd_ks (sd_b2l f 0) (sd_b2l f 8) i).1)) (cwV 1 hts (lw_V q167 q169 qs4 q15 q170) rfl rfl rfl (by decide +kernel) ⟨Nat.le_of_ble_eq_true rfl, Nat.le_of_ble_eq_true rfl⟩) ⟨pu_blind, va_recv hK hP (ci := 1) (q0 := 0) rfl rfl, pu_at hP hK⟩ rfl rfl hl.1 rfl (lv_room (Nat.le_of_ble_eq_true rfl)) dX2_createWorkingKey_139 ⟨Nat.le_of_ble_eq_true rfl, Nat.le_of_ble_eq_true rfl⟩) ?_
          refine lv_istore (lv' := [(7, .int (sd_w0 (sd_rR (sd_ks (sd_b2l f 0) (sd_b2l f 8) i).1))), (3, .long (sd_rR (sd_ks (sd_b2l f 0) (sd_b2l f 8) i).1)), (11, .int (nI i)), (10, .int (sd_w1 (sd_ks (sd_b2l f 0) (sd_b2l f 8) i).2)), (9, .int (sd_w0 (sd_ks (sd_b2l f 0) (sd_b2l f 8) i).2)), (8, .int (sd_w1 (sd_ks (sd_b2l f 0) (sd_b2l f 8) i).1)), (5, .long (sd_ks (sd_b2l f 0) (sd_b2l f 8) i).2), (2, .ref q1), (0, .ref h0), (1, .ref h1)]) hx hb dX2_createWorkingKey_142 hl (by decide) rfl (fun ls hl => ?_)
          refine lv_aload_n hx hb dX2_createWorkingKey_144 rfl (lv_at hl 8 rfl) ?_
          refine lv_lload_n hx hb dX2_createWorkingKey_145 rfl (lv_at hl 1 rfl) ?_
          refine cs_i (W.runV (As := [.long (sd_rR (sd_ks (sd_b2l f 0) (sd_b2l f 8) i).1)]) (rest := []) ⟨hx, hb, hml, hown, hts⟩ (mt_w1 l D _ _ h0 (sd_rR (sd_ks (sd_b2l f 0) (sd_b2l f 8) i).1)) (cwV 1 hts (lw_V q171 q173 qs5 q15 q174) rfl rfl rfl (by decide +kernel) ⟨Nat.le_of_ble_eq_true rfl, Nat.le_of_ble_eq_true rfl⟩) ⟨pu_blind, va_recv hK hP (ci := 1) (q0 := 0) rfl rfl, pu_at hP hK⟩ rfl rfl hl.1 rfl (lv_room (Nat.le_of_ble_eq_true rfl)) dX2_createWorkingKey_146 ⟨Nat.le_of_ble_eq_true rfl, Nat.le_of_ble_eq_true rfl⟩) ?_
          refine lv_istore (lv' := [(8, .int (sd_w1 (sd_rR (sd_ks (sd_b2l f 0) (sd_b2l f 8) i).1))), (7, .int (sd_w0 (sd_rR (sd_ks (sd_b2l f 0) (sd_b2l f 8) i).1))), (3, .long (sd_rR (sd_ks (sd_b2l f 0) (sd_b2l f 8) i).1)), (11, .int (nI i)), (10, .int (sd_w1 (sd_ks (sd_b2l f 0) (sd_b2l f 8) i).2)), (9, .int (sd_w0 (sd_ks (sd_b2l f 0) (sd_b2l f 8) i).2)), (5, .long (sd_ks (sd_b2l f 0) (sd_b2l f 8) i).2), (2, .ref q1), (0, .ref h0), (1, .ref h1)]) hx hb dX2_createWorkingKey_149 hl (by decide) rfl (fun ls hl => ?_)
          refine lv_goto (tgt := 178) hx hb dX2_createWorkingKey_151 (by decide) ?_
          refine lv_iinc (v := nI (i + 1)) (lv' := [(11, .int (nI (i + 1))), (8, .int (sd_w1 (sd_rR (sd_ks (sd_b2l f 0) (sd_b2l f 8) i).1))), (7, .int (sd_w0 (sd_rR (sd_ks (sd_b2l f 0) (sd_b2l f 8) i).1))), (3, .long (sd_rR (sd_ks (sd_b2l f 0) (sd_b2l f 8) i).1)), (10, .int (sd_w1 (sd_ks (sd_b2l f 0) (sd_b2l f 8) i).2)), (9, .int (sd_w0 (sd_ks (sd_b2l f 0) (sd_b2l f 8) i).2)), (5, .long (sd_ks (sd_b2l f 0) (sd_b2l f 8) i).2), (2, .ref q1), (0, .ref h0), (1, .ref h1)]) hx hb dX2_createWorkingKey_178 hl (k := 3) rfl (nI_inc i) (by decide) rfl (fun ls hl => ?_)
          refine lv_goto (tgt := 71) hx hb dX2_createWorkingKey_181 (by decide) ?_
          exact ih H locs ls ⟨hP, hD, hS, by rw [sd_ks_e _ _ hz]; exact lv_sub hl [0, 4, 5, 1, 2, 6, 3, 7, 8, 9] rfl⟩
    · obtain ⟨hP, hD, hS, hl⟩ := hI
      refine lv_iload hx hb dX2_createWorkingKey_71 (lv_at hl 0 rfl) ?_
      refine lv_bipush (v := 16) hx hb dX2_createWorkingKey_73 (by decide) ?_
      refine lv_icmp_ge (tgt := 184) hx hb dX2_createWorkingKey_75 (by decide) (fun c1 => ?_) (fun c1 => ?_)
      · refine lv_aload_n hx hb dX2_createWorkingKey_184 rfl (lv_at hl 7 rfl) ?_
        exact W.aret (v := .ref q1) hx hb hr (Or.inr ⟨_, rfl⟩) (Or.inr ⟨_, rfl⟩) (fun t ht hW => ⟨⟨(), q1, rfl, trivial, by rw [ht]; exact hP, hD⟩, hS.F ht⟩) hS.2.2 dX2_createWorkingKey_185
      · exact absurd (by decide : (16 : Int32) ≤ nI 16) c1
  · exact absurd rfl c0
set_option maxHeartbeats 4000000 in
set_option maxRecDepth 100000 in
/-- init: the direction and the key array -/
theorem mt_in (l : Launch) (D : va_G) (cB cI : ClassId) (h0 h1 h2 sz : Nat) (v1 v2 : Value) (b : Bool) (f : Nat → Int32) : Met l yX2_init_2 (ws_ yX2_init_2 cX2_init_2 3 none) ({ frames := 2, cells := 1, slots := 32, locals := 56 }) (va_Pc [.ref h0, .int (bI b), .ref h2] (py_ D [(h0, .inr (1, [.int 16, v1, v2])), (h2, .inr (2, [.ref h1])), (h1, .inl (cB, 16, .inl f))] (tyBI cB cI) sz)) (va_Qv (fun _ : Nat => True) (fun u => wx_ D (va_A [(h0, .inr (1, [.int 16, v1, v2])), (h2, .inr (2, [.ref h1])), (h1, .inl (cB, 16, .inl f))] sz) [(h0, .inr (1, [.int 16, .ref u, .int (bI b)])), (h2, .inr (2, [.ref h1])), (h1, .inl (cB, 16, .inl f)), (u, .inl (cI, 32, .inl (sd_key f)))]) (va_A [(h0, .inr (1, [.int 16, v1, v2])), (h2, .inr (2, [.ref h1])), (h1, .inl (cB, 16, .inl f))] sz)) 1 32 (va_A [(h0, .inr (1, [.int 16, v1, v2])), (h2, .inr (2, [.ref h1])), (h1, .inl (cB, 16, .inl f))] sz) := by
  refine Met.ofW (cc := cX2_init_2) (maxL := 3) (ret := none) (by decide) rfl ?_
  intro p e s m args below meth c s₁ B hml hv
  obtain ⟨rfl, ⟨hsz, hP, hK, hD0⟩, hT0⟩ := hv
  have hx := B.exec
  have hb := B.bytes
  have hr := B.returns
  have hts := atoms_spec (ws := (ws_ yX2_init_2 cX2_init_2 3 none)) B.pre
  have hts : ∀ w ∈ lw_all, w.before _ s = true := fun w h => hts w (List.mem_cons_of_mem _ h)
  have hown : s.vm.findClass RX2 = some m.cls := findClass_of_methodNamed B.named
  have hlocks := B.notSynchronized
  subst hsz
  have hD := hD0.self (sz := s.heap.size)
  generalize hAe : va_A [(h0, .inr (1, [.int 16, v1, v2])), (h2, .inr (2, [.ref h1])), (h1, .inl (cB, 16, .inl f))] s.heap.size = A at hD hT0 ⊢
  have hA : ∀ q : Nat, s.heap.size ≤ q → A q := fun q h => by rw [← hAe]; exact Or.inr h
  have hS : va_S A s.heap s.heap [] := va_S.rf
  have hP : va_P D sCl [(h0, .inr (1, [.int 16, v1, v2])), (h2, .inr (2, [.ref h1])), (h1, .inl (cB, 16, .inl f))] s.heap := hP
  have hT : tb_ A s s.heap := hT0
  have hl := lv_entry ([.ref h0, .int (bI b), .ref h2]) (n := 3) (Nat.le_of_ble_eq_true rfl)
  rw [lg_entry_eq]
  generalize (lg_sl ([.ref h0, .int (bI b), .ref h2]) ++ List.replicate (3 - (lg_sl ([.ref h0, .int (bI b), .ref h2])).length) Slot.unset).toArray = ls at hl ⊢
  have hl : lv_has ls 3 [(0, .ref h0), (1, .int (bI b)), (2, .ref h2)] := hl
  refine lv_aload_n hx hb dX2_init_2_0 rfl (lv_at hl 0 rfl) ?_
  refine lv_iload_n hx hb dX2_init_2_1 rfl (lv_at hl 1 rfl) ?_
  refine va_put (D := D) (ci := 1) (v := .int (bI b)) (ty := .boolean) (C := RX2) (T := TX2) (N := 3) hx hb hts in_X2 tyX2 tyX2_ok nmX2 hown hK hP hD hS 0 rfl rfl 2 (by decide) (hts _ q48) (fun _ h9 => h9) rfl (by decide +kernel) (bI_nar b) (bI_fit b) (Nat.le_of_ble_eq_true rfl) dX2_init_2_2 (fun H locs hP hD hS => ?_)
  have hP : va_P D sCl [(h0, .inr (1, [.int 16, v1, .int (bI b)])), (h2, .inr (2, [.ref h1])), (h1, .inl (cB, 16, .inl f))] H := hP
  have hD : va_D A [(h0, .inr (1, [.int 16, v1, .int (bI b)])), (h2, .inr (2, [.ref h1])), (h1, .inl (cB, 16, .inl f))] := hD
  refine lv_aload_n hx hb dX2_init_2_5 rfl (lv_at hl 0 rfl) ?_
  refine lv_aload_n hx hb dX2_init_2_6 rfl (lv_at hl 0 rfl) ?_
  refine lv_aload_n hx hb dX2_init_2_7 rfl (lv_at hl 2 rfl) ?_
  refine va_castS hx hb hown (hts _ q86) (hK.1 2 _ rfl).2 (va_recv hK hP (ci := 2) (q0 := 1) rfl rfl) dX2_init_2_8 ?_
  refine va_csr (W.runV (As := []) (rest := [.ref h0, .ref h0]) ⟨hx, hb, hml, hown, hts⟩ (mt_gk l D _ _ 1 h2 h1 rfl) (cwV 0 hts (lw_V q87 q88 q89 q16 q90) rfl rfl rfl (by decide +kernel) ⟨Nat.le_of_ble_eq_true rfl, Nat.le_of_ble_eq_true rfl⟩) ⟨pu_blind, va_recv hK hP (ci := 2) (q0 := 1) rfl rfl, pu_at hP hK⟩ rfl rfl hl.1 rfl (lv_room (Nat.le_of_ble_eq_true rfl)) dX2_init_2_11 ⟨Nat.le_of_ble_eq_true rfl, Nat.le_of_ble_eq_true rfl⟩) (fun k hk => ?_)
  have hk : k = h1 := hk
  rw [hk]
  have hPc := hP.sub (ws' := [(h0, .inr (1, [.int 16, v1, .int (bI b)])), (h1, .inl (cB, 16, .inl f))]) [0, 2] rfl
  have hDc := hD.sub (ws' := [(h0, .inr (1, [.int 16, v1, .int (bI b)])), (h1, .inl (cB, 16, .inl f))]) [0, 2] (by decide) rfl
  have hFc := va_free (wc := [(h0, .inr (1, [.int 16, v1, .int (bI b)])), (h1, .inl (cB, 16, .inl f))]) hD hS hA [0, 2] rfl
  have hTc := tb_here hT hS hFc
  refine va_callr (va_runV (As := [.ref h1]) (rest := [.ref h0]) ⟨hx, hb, hml, hown, hts⟩ (mt_cw l D cB cI h0 h1 _ _ f) (cwV 1 hts (lw_V q91 q93 qs1 q15 q94) rfl rfl rfl (by decide +kernel) ⟨Nat.le_of_ble_eq_true rfl, Nat.le_of_ble_eq_true rfl⟩) ⟨py_blind, va_recv hK hP (ci := 1) (q0 := 0) rfl rfl, py_at hPc hK hDc hTc⟩ rfl rfl hl.1 rfl (lv_room (Nat.le_of_ble_eq_true rfl)) dX2_init_2_14 ⟨Nat.le_of_ble_eq_true rfl, Nat.le_of_ble_eq_true rfl⟩) hS (fun q _ h => hFc q h) hFc (fun u_ ra t H locs ht hvm hw hB hz1 hk1 hS => ?_)
  obtain ⟨hP1, hD1⟩ := hB
  rw [ht] at hP1
  obtain ⟨hP, hD⟩ := va_join (wr := [(h2, .inr (2, [.ref h1]))]) (w1 := [(h0, .inr (1, [.int 16, v1, .int (bI b)])), (h1, .inl (cB, 16, .inl f)), (ra, .inl (cI, 32, .inl (sd_key f)))]) hP hD [0, 2] [1] rfl rfl (by decide) (by decide) hk1 hFc hP1 hD1
  have hP := hP.sub (ws' := [(h0, .inr (1, [.int 16, v1, .int (bI b)])), (h2, .inr (2, [.ref h1])), (h1, .inl (cB, 16, .inl f)), (ra, .inl (cI, 32, .inl (sd_key f)))]) [1, 0, 2, 3] rfl
  have hD := hD.sub (ws' := [(h0, .inr (1, [.int 16, v1, .int (bI b)])), (h2, .inr (2, [.ref h1])), (h1, .inl (cB, 16, .inl f)), (ra, .inl (cI, 32, .inl (sd_key f)))]) [1, 0, 2, 3] (by decide) rfl
  refine W.widen (k := 1) (n := 32) (Nat.le_of_ble_eq_true rfl) (Nat.le_of_ble_eq_true rfl) ?_
  refine va_put (D := D) (ci := 1) (v := .ref ra) (ty := .array .int) (C := RX2) (T := TX2) (N := 3) hx hb hts in_X2 tyX2 tyX2_ok nmX2 hown hK hP hD hS 0 rfl rfl 1 (by decide) (hts _ q47) (fun _ h9 => h9) rfl (by decide +kernel) rfl rfl (Nat.le_of_ble_eq_true rfl) dX2_init_2_17 (fun H locs hP hD hS => ?_)
  have hP : va_P D sCl [(h0, .inr (1, [.int 16, .ref ra, .int (bI b)])), (h2, .inr (2, [.ref h1])), (h1, .inl (cB, 16, .inl f)), (ra, .inl (cI, 32, .inl (sd_key f)))] H := hP
  have hD : va_D A [(h0, .inr (1, [.int 16, .ref ra, .int (bI b)])), (h2, .inr (2, [.ref h1])), (h1, .inl (cB, 16, .inl f)), (ra, .inl (cI, 32, .inl (sd_key f)))] := hD
  exact W.vret hx hb hr (fun t ht hW => ⟨⟨ra, rfl, trivial, by rw [ht]; exact hP, hD⟩, hS.F ht⟩) hS.2.2 dX2_init_2_20
end
section
/-! SEEDEngine.processBlock, one walk a direction (printed by w_pb.py) -/
theorem dec_15 (i : Nat) : 15 - nI i + Int32.ofInt (-1) = 15 - nI (i + 1) := by
  show 15 - nI i + (-1) = 15 - nI (i + 1)
  rw [← nI_1]
  grind
set_option maxHeartbeats 4000000 in
set_option maxRecDepth 100000 in
/-- processBlock: one block, locked -/
theorem mt_pbT (l : Launch) (D : va_G) (cB cI : ClassId) (h0 hq h3 h4 sz : Nat) (K g o : Nat → Int32) : Met l yX2_processBlock (ws_ yX2_processBlock cX2_processBlock 12 (some .int)) ({ frames := 4, cells := 0, slots := 0, locals := 97 }) (va_Pc [.ref h0, .ref h3, .int 0, .ref h4, .int 0] (py_ D [(h0, .inr (1, [.int 16, .ref hq, .int (bI true)])), (hq, .inl (cI, 32, .inl K)), (h3, .inl (cB, 16, .inl g)), (h4, .inl (cB, 16, .inl o))] (tyBI cB cI) sz)) (va_Qi (fun (_ : Int32) (_ : Unit) => True) (fun _ => wx_ D (va_A [(h0, .inr (1, [.int 16, .ref hq, .int (bI true)])), (hq, .inl (cI, 32, .inl K)), (h3, .inl (cB, 16, .inl g)), (h4, .inl (cB, 16, .inl o))] sz) [(h0, .inr (1, [.int 16, .ref hq, .int (bI true)])), (hq, .inl (cI, 32, .inl K)), (h3, .inl (cB, 16, .inl g)), (h4, .inl (cB, 16, .inl (sd_out o (sd_fw K 16 (sd_in g)))))]) (va_A [(h0, .inr (1, [.int 16, .ref hq, .int (bI true)])), (hq, .inl (cI, 32, .inl K)), (h3, .inl (cB, 16, .inl g)), (h4, .inl (cB, 16, .inl o))] sz)) 0 0 (va_A [(h0, .inr (1, [.int 16, .ref hq, .int (bI true)])), (hq, .inl (cI, 32, .inl K)), (h3, .inl (cB, 16, .inl g)), (h4, .inl (cB, 16, .inl o))] sz) := by
  refine Met.ofW (cc := cX2_processBlock) (maxL := 12) (ret := (some .int)) (by decide) rfl ?_
  intro p e s m args below meth c s₁ B hml hv
  obtain ⟨rfl, ⟨hsz, hP, hK, hD0⟩, hT0⟩ := hv
  have hx := B.exec
  have hb := B.bytes
  have hr := B.returns
  have hts := atoms_spec (ws := (ws_ yX2_processBlock cX2_processBlock 12 (some .int))) B.pre
  have hts : ∀ w ∈ lw_all, w.before _ s = true := fun w h => hts w (List.mem_cons_of_mem _ h)
  have hown : s.vm.findClass RX2 = some m.cls := findClass_of_methodNamed B.named
  have hlocks := B.notSynchronized
  subst hsz
  have hD := hD0.self (sz := s.heap.size)
  generalize hAe : va_A [(h0, .inr (1, [.int 16, .ref hq, .int (bI true)])), (hq, .inl (cI, 32, .inl K)), (h3, .inl (cB, 16, .inl g)), (h4, .inl (cB, 16, .inl o))] s.heap.size = A at hD hT0 ⊢
  have hA : ∀ q : Nat, s.heap.size ≤ q → A q := fun q h => by rw [← hAe]; exact Or.inr h
  have hS : va_S A s.heap s.heap [] := va_S.rf
  have hP : va_P D sCl [(h0, .inr (1, [.int 16, .ref hq, .int (bI true)])), (hq, .inl (cI, 32, .inl K)), (h3, .inl (cB, 16, .inl g)), (h4, .inl (cB, 16, .inl o))] s.heap := hP
  have hT : tb_ A s s.heap := hT0
  have hl := lv_entry ([.ref h0, .ref h3, .int 0, .ref h4, .int 0]) (n := 12) (Nat.le_of_ble_eq_true rfl)
  rw [lg_entry_eq]
  generalize (lg_sl ([.ref h0, .ref h3, .int 0, .ref h4, .int 0]) ++ List.replicate (12 - (lg_sl ([.ref h0, .ref h3, .int 0, .ref h4, .int 0])).length) Slot.unset).toArray = ls at hl ⊢
  have hl : lv_has ls 12 [(0, .ref h0), (1, .ref h3), (2, .int 0), (3, .ref h4), (4, .int 0)] := hl
  have hTn := tb_here (B := nn_) hT hS (fun _ h => h.elim)
  refine lv_aload_n hx hb dX2_processBlock_0 rfl (lv_at hl 0 rfl) ?_
  refine va_get (D := D) (ci := 1) (v := .ref hq) (C := RX2) (T := TX2) (N := 3) hx hb hts in_X2 hown hK hP 0 rfl rfl 1 (by decide) (hts _ q47) (fun _ h9 => h9) rfl dX2_processBlock_1 ?_
  refine lv_ifnonnull (tgt := 17) hx hb dX2_processBlock_4 (by decide) ?_
  refine lv_iload_n hx hb dX2_processBlock_17 rfl (lv_at hl 2 rfl) ?_
  refine lv_bipush (v := 16) hx hb dX2_processBlock_18 (by decide) ?_
  refine lv_iadd hx hb dX2_processBlock_20 ?_
  refine lv_aload_n hx hb dX2_processBlock_21 rfl (lv_at hl 1 rfl) ?_
  refine va_alen (v := 16) hx hb hK hP 2 0 rfl rfl rfl dX2_processBlock_22 ?_
  refine lv_icmp_le (tgt := 36) hx hb dX2_processBlock_23 (by decide) (fun c0 => ?_) (fun c0 => ?_)
  · refine lv_iload hx hb dX2_processBlock_36 (lv_at hl 4 rfl) ?_
    refine lv_bipush (v := 16) hx hb dX2_processBlock_38 (by decide) ?_
    refine lv_iadd hx hb dX2_processBlock_40 ?_
    refine lv_aload_n hx hb dX2_processBlock_41 rfl (lv_at hl 3 rfl) ?_
    refine va_alen (v := 16) hx hb hK hP 3 0 rfl rfl rfl dX2_processBlock_42 ?_
    refine lv_icmp_le (tgt := 56) hx hb dX2_processBlock_43 (by decide) (fun c1 => ?_) (fun c1 => ?_)
    · refine lv_aload_n hx hb dX2_processBlock_56 rfl (lv_at hl 0 rfl) ?_
      refine lv_aload_n hx hb dX2_processBlock_57 rfl (lv_at hl 1 rfl) ?_
      refine lv_iload_n hx hb dX2_processBlock_58 rfl (lv_at hl 2 rfl) ?_
      refine lv_iconst (v := 0) hx hb dX2_processBlock_59 (by decide) ?_
      refine lv_iadd hx hb dX2_processBlock_60 ?_
      refine tp_i (y := nI 0) (by decide) ?_
      refine cs_l (W.runV (As := [.ref h3, .int (nI 0)]) (rest := []) ⟨hx, hb, hml, hown, hts⟩ (mt_b2l l D _ cB cI 2 h0 h3 16 0 g rfl (by decide) (by decide)) (cwV 2 hts (lw_V q163 q165 qs3 q15 q166) rfl rfl rfl (by decide +kernel) ⟨Nat.le_of_ble_eq_true rfl, Nat.le_of_ble_eq_true rfl⟩) ⟨pu_blind, va_recv hK hP (ci := 1) (q0 := 0) rfl rfl, pu_at hP hK⟩ rfl rfl hl.1 rfl (lv_room (Nat.le_of_ble_eq_true rfl)) dX2_processBlock_61 ⟨Nat.le_of_ble_eq_true rfl, Nat.le_of_ble_eq_true rfl⟩) ?_
      refine lv_lstore (lv' := [(5, .long (sd_b2l g 0)), (0, .ref h0), (1, .ref h3), (2, .int 0), (3, .ref h4), (4, .int 0)]) hx hb dX2_processBlock_64 hl (by decide) rfl (fun ls hl => ?_)
      refine lv_aload_n hx hb dX2_processBlock_66 rfl (lv_at hl 1 rfl) ?_
      refine lv_aload_n hx hb dX2_processBlock_67 rfl (lv_at hl 2 rfl) ?_
      refine lv_iload_n hx hb dX2_processBlock_68 rfl (lv_at hl 3 rfl) ?_
      refine lv_bipush (v := 8) hx hb dX2_processBlock_69 (by decide) ?_
      refine lv_iadd hx hb dX2_processBlock_71 ?_
      refine tp_i (y := nI 8) (by decide) ?_
      refine cs_l (W.runV (As := [.ref h3, .int (nI 8)]) (rest := []) ⟨hx, hb, hml, hown, hts⟩ (mt_b2l l D _ cB cI 2 h0 h3 16 8 g rfl (by decide) (by decide)) (cwV 2 hts (lw_V q163 q165 qs3 q15 q166) rfl rfl rfl (by decide +kernel) ⟨Nat.le_of_ble_eq_true rfl, Nat.le_of_ble_eq_true rfl⟩) ⟨pu_blind, va_recv hK hP (ci := 1) (q0 := 0) rfl rfl, pu_at hP hK⟩ rfl rfl hl.1 rfl (lv_room (Nat.le_of_ble_eq_true rfl)) dX2_processBlock_72 ⟨Nat.le_of_ble_eq_true rfl, Nat.le_of_ble_eq_true rfl⟩) ?_
      refine lv_lstore (lv' := [(7, .long (sd_b2l g 8)), (5, .long (sd_b2l g 0)), (0, .ref h0), (1, .ref h3), (2, .int 0), (3, .ref h4), (4, .int 0)]) hx hb dX2_processBlock_75 hl (by decide) rfl (fun ls hl => ?_)
      refine lv_aload_n hx hb dX2_processBlock_77 rfl (lv_at hl 2 rfl) ?_
      refine va_get (D := D) (ci := 1) (v := .int (bI true)) (C := RX2) (T := TX2) (N := 3) hx hb hts in_X2 hown hK hP 0 rfl rfl 2 (by decide) (hts _ q48) (fun _ h9 => h9) rfl dX2_processBlock_78 ?_
      refine lv_if_eq (tgt := 142) hx hb dX2_processBlock_81 (by decide) (fun c2 => ?_) (fun c2 => ?_)
      · exact absurd c2 (by decide)
      · refine lv_iconst (v := 0) hx hb dX2_processBlock_84 (by decide) ?_
        refine tp_i (y := nI 0) (by decide) ?_
        refine lv_istore (lv' := [(9, .int (nI 0)), (7, .long (sd_b2l g 8)), (5, .long (sd_b2l g 0)), (0, .ref h0), (1, .ref h3), (2, .int 0), (3, .ref h4), (4, .int 0)]) hx hb dX2_processBlock_85 hl (by decide) rfl (fun ls hl => ?_)
        refine lp_pure (fun i ls => lv_has ls 12 [(9, .int (nI i)), (5, .long (sd_fw K i (sd_in g)).1), (7, .long (sd_fw K i (sd_in g)).2), (0, .ref h0), (1, .ref h3), (2, .int 0), (3, .ref h4), (4, .int 0)]) 16 (fun i ls hi hl ih => ?_) (fun ls hl => ?_) (lv_sub hl [0, 2, 1, 3, 4, 5, 6, 7] rfl)
        · refine lv_iload hx hb dX2_processBlock_87 (lv_at hl 0 rfl) ?_
          refine lv_bipush (v := 16) hx hb dX2_processBlock_89 (by decide) ?_
          refine lv_icmp_ge (tgt := 139) hx hb dX2_processBlock_91 (by decide) (fun c3 => ?_) (fun c3 => ?_)
          · exact absurd c3 (nI_ge (by omega) (by omega) : ¬ nI 16 ≤ nI i)
          · refine lv_lload hx hb dX2_processBlock_94 (lv_at hl 2 rfl) ?_
            refine lv_lstore (lv' := [(10, .long (sd_fw K i (sd_in g)).2), (9, .int (nI i)), (5, .long (sd_fw K i (sd_in g)).1), (7, .long (sd_fw K i (sd_in g)).2), (0, .ref h0), (1, .ref h3), (2, .int 0), (3, .ref h4), (4, .int 0)]) hx hb dX2_processBlock_96 hl (by decide) rfl (fun ls hl => ?_)
            refine lv_lload hx hb dX2_processBlock_98 (lv_at hl 2 rfl) ?_
            refine lv_aload_n hx hb dX2_processBlock_100 rfl (lv_at hl 4 rfl) ?_
            refine lv_aload_n hx hb dX2_processBlock_101 rfl (lv_at hl 4 rfl) ?_
            refine va_get (D := D) (ci := 1) (v := .ref hq) (C := RX2) (T := TX2) (N := 3) hx hb hts in_X2 hown hK hP 0 rfl rfl 1 (by decide) (hts _ q47) (fun _ h9 => h9) rfl dX2_processBlock_102 ?_
            refine lv_iconst (v := 2) hx hb dX2_processBlock_105 (by decide) ?_
            refine lv_iload hx hb dX2_processBlock_106 (lv_at hl 1 rfl) ?_
            refine lv_imul hx hb dX2_processBlock_108 ?_
            refine tp_i (y := nI (2 * i)) (pk_mul 2 i) ?_
            refine va_iald hx hb hK hP 1 1 rfl rfl (vp_in_nI (show 2 * i < 32 by omega) (by decide)) dX2_processBlock_109 ?_
            refine tp_i (y := K (2 * i)) (by rw [nI_clamp (by omega)]) ?_
            refine lv_aload_n hx hb dX2_processBlock_110 rfl (lv_at hl 4 rfl) ?_
            refine va_get (D := D) (ci := 1) (v := .ref hq) (C := RX2) (T := TX2) (N := 3) hx hb hts in_X2 hown hK hP 0 rfl rfl 1 (by decide) (hts _ q47) (fun _ h9 => h9) rfl dX2_processBlock_111 ?_
            refine lv_iconst (v := 2) hx hb dX2_processBlock_114 (by decide) ?_
            refine lv_iload hx hb dX2_processBlock_115 (lv_at hl 1 rfl) ?_
            refine lv_imul hx hb dX2_processBlock_117 ?_
            refine tp_i (y := nI (2 * i)) (pk_mul 2 i) ?_
            refine lv_iconst (v := 1) hx hb dX2_processBlock_118 (by decide) ?_
            refine lv_iadd hx hb dX2_processBlock_119 ?_
            refine tp_i (y := nI (2 * i + 1)) (nI_1 (2 * i)) ?_
            refine va_iald hx hb hK hP 1 1 rfl rfl (vp_in_nI (show 2 * i + 1 < 32 by omega) (by decide)) dX2_processBlock_120 ?_
            refine tp_i (y := K (2 * i + 1)) (by rw [nI_clamp (by omega)]) ?_
            refine lv_lload hx hb dX2_processBlock_121 (lv_at hl 3 rfl) ?_
            refine cs_l (W.runV (As := [.int (K (2 * i)), .int (K (2 * i + 1)), .long (sd_fw K i (sd_in g)).2]) (rest := [.long (sd_fw K i (sd_in g)).1]) ⟨hx, hb, hml, hown, hts⟩ (mt_F l D _ _ 0 h0 _ rfl (K (2 * i)) (K (2 * i + 1)) (sd_fw K i (sd_in g)).2) (cwV 3 hts (lw_V q260 q262 qs9 q15 q263) rfl rfl rfl (by decide +kernel) ⟨Nat.le_of_ble_eq_true rfl, Nat.le_of_ble_eq_true rfl⟩) ⟨pt_blind, va_recv hK hP (ci := 1) (q0 := 0) rfl rfl, pt_at hP hK hTn⟩ rfl rfl hl.1 rfl (lv_room (Nat.le_of_ble_eq_true rfl)) dX2_processBlock_123 ⟨Nat.le_of_ble_eq_true rfl, Nat.le_of_ble_eq_true rfl⟩) ?_
            refine lv_lxor hx hb dX2_processBlock_126 ?_
            refine tp_l (y := (sd_fw K (i + 1) (sd_in g)).2) rfl ?_
            refine lv_lstore (lv' := [(7, .long ((sd_fw K (i + 1) (sd_in g)).2)), (10, .long (sd_fw K i (sd_in g)).2), (9, .int (nI i)), (5, .long (sd_fw K i (sd_in g)).1), (0, .ref h0), (1, .ref h3), (2, .int 0), (3, .ref h4), (4, .int 0)]) hx hb dX2_processBlock_127 hl (by decide) rfl (fun ls hl => ?_)
            refine lv_lload hx hb dX2_processBlock_129 (lv_at hl 1 rfl) ?_
            refine tp_l (y := (sd_fw K (i + 1) (sd_in g)).1) rfl ?_
            refine lv_lstore (lv' := [(5, .long ((sd_fw K (i + 1) (sd_in g)).1)), (7, .long ((sd_fw K (i + 1) (sd_in g)).2)), (10, .long (sd_fw K i (sd_in g)).2), (9, .int (nI i)), (0, .ref h0), (1, .ref h3), (2, .int 0), (3, .ref h4), (4, .int 0)]) hx hb dX2_processBlock_131 hl (by decide) rfl (fun ls hl => ?_)
            refine lv_iinc (v := nI (i + 1)) (lv' := [(9, .int (nI (i + 1))), (5, .long ((sd_fw K (i + 1) (sd_in g)).1)), (7, .long ((sd_fw K (i + 1) (sd_in g)).2)), (10, .long (sd_fw K i (sd_in g)).2), (0, .ref h0), (1, .ref h3), (2, .int 0), (3, .ref h4), (4, .int 0)]) hx hb dX2_processBlock_133 hl (k := 3) rfl (nI_inc i) (by decide) rfl (fun ls hl => ?_)
            refine lv_goto (tgt := 87) hx hb dX2_processBlock_136 (by decide) ?_
            exact ih ls (lv_sub hl [0, 1, 2, 4, 5, 6, 7, 8] rfl)
        · refine lv_iload hx hb dX2_processBlock_87 (lv_at hl 0 rfl) ?_
          refine lv_bipush (v := 16) hx hb dX2_processBlock_89 (by decide) ?_
          refine lv_icmp_ge (tgt := 139) hx hb dX2_processBlock_91 (by decide) (fun c3 => ?_) (fun c3 => ?_)
          · refine lv_goto (tgt := 196) hx hb dX2_processBlock_139 (by decide) ?_
            refine lv_aload_n hx hb dX2_processBlock_196 rfl (lv_at hl 3 rfl) ?_
            refine lv_aload_n hx hb dX2_processBlock_197 rfl (lv_at hl 6 rfl) ?_
            refine lv_iload hx hb dX2_processBlock_198 (lv_at hl 7 rfl) ?_
            refine lv_iconst (v := 0) hx hb dX2_processBlock_200 (by decide) ?_
            refine lv_iadd hx hb dX2_processBlock_201 ?_
            refine tp_i (y := nI 0) (by decide) ?_
            refine lv_lload hx hb dX2_processBlock_202 (lv_at hl 2 rfl) ?_
            have hPc := hP.sub (ws' := [(h4, .inl (cB, 16, .inl o))]) [3] rfl
            have hDc := hD.sub (ws' := [(h4, .inl (cB, 16, .inl o))]) [3] (by decide) rfl
            have hFc := va_free (wc := [(h4, .inl (cB, 16, .inl o))]) hD hS hA [3] rfl
            refine va_callv (va_runV (As := [.ref h4, .int (nI 0), .long (sd_fw K 16 (sd_in g)).2]) (rest := []) ⟨hx, hb, hml, hown, hts⟩ (mt_l2b l D cB cI h0 h4 16 0 _ o (sd_fw K 16 (sd_in g)).2 (by decide) (by decide)) (cwV 3 hts (lw_V q273 q275 qs12 q15 q276) rfl rfl rfl (by decide +kernel) ⟨Nat.le_of_ble_eq_true rfl, Nat.le_of_ble_eq_true rfl⟩) ⟨px_blind, va_recv hK hP (ci := 1) (q0 := 0) rfl rfl, px_at hPc hK hDc⟩ rfl rfl hl.1 rfl (lv_room (Nat.le_of_ble_eq_true rfl)) dX2_processBlock_204 ⟨Nat.le_of_ble_eq_true rfl, Nat.le_of_ble_eq_true rfl⟩) hS (fun q _ h => hFc q h) hFc (fun u_ t H locs ht hvm hw hB hz1 hk1 hS => ?_)
            obtain ⟨hP1, hD1⟩ := hB
            rw [ht] at hP1
            obtain ⟨hP, hD⟩ := va_join (wr := [(h0, .inr (1, [.int 16, .ref hq, .int (bI true)])), (hq, .inl (cI, 32, .inl K)), (h3, .inl (cB, 16, .inl g))]) (w1 := [(h4, .inl (cB, 16, .inl (sd_l2b o 0 (sd_fw K 16 (sd_in g)).2 8)))]) hP hD [3] [0, 1, 2] rfl rfl (by decide) (by decide) hk1 hFc hP1 hD1
            have hP := hP.sub (ws' := [(h0, .inr (1, [.int 16, .ref hq, .int (bI true)])), (hq, .inl (cI, 32, .inl K)), (h3, .inl (cB, 16, .inl g)), (h4, .inl (cB, 16, .inl (sd_l2b o 0 (sd_fw K 16 (sd_in g)).2 8)))]) [0, 1, 2, 3] rfl
            have hD := hD.sub (ws' := [(h0, .inr (1, [.int 16, .ref hq, .int (bI true)])), (hq, .inl (cI, 32, .inl K)), (h3, .inl (cB, 16, .inl g)), (h4, .inl (cB, 16, .inl (sd_l2b o 0 (sd_fw K 16 (sd_in g)).2 8)))]) [0, 1, 2, 3] (by decide) rfl
            refine lv_aload_n hx hb dX2_processBlock_207 rfl (lv_at hl 3 rfl) ?_
            refine lv_aload_n hx hb dX2_processBlock_208 rfl (lv_at hl 6 rfl) ?_
            refine lv_iload hx hb dX2_processBlock_209 (lv_at hl 7 rfl) ?_
            refine lv_bipush (v := 8) hx hb dX2_processBlock_211 (by decide) ?_
            refine lv_iadd hx hb dX2_processBlock_213 ?_
            refine tp_i (y := nI 8) (by decide) ?_
            refine lv_lload hx hb dX2_processBlock_214 (lv_at hl 1 rfl) ?_
            have hPc := hP.sub (ws' := [(h4, .inl (cB, 16, .inl (sd_l2b o 0 (sd_fw K 16 (sd_in g)).2 8)))]) [3] rfl
            have hDc := hD.sub (ws' := [(h4, .inl (cB, 16, .inl (sd_l2b o 0 (sd_fw K 16 (sd_in g)).2 8)))]) [3] (by decide) rfl
            have hFc := va_free (wc := [(h4, .inl (cB, 16, .inl (sd_l2b o 0 (sd_fw K 16 (sd_in g)).2 8)))]) hD hS hA [3] rfl
            refine va_callv (va_runV (As := [.ref h4, .int (nI 8), .long (sd_fw K 16 (sd_in g)).1]) (rest := []) ⟨hx, hb, hml, hown, hts⟩ (mt_l2b l D cB cI h0 h4 16 8 _ (sd_l2b o 0 (sd_fw K 16 (sd_in g)).2 8) (sd_fw K 16 (sd_in g)).1 (by decide) (by decide)) (cwV 3 hts (lw_V q273 q275 qs12 q15 q276) rfl rfl rfl (by decide +kernel) ⟨Nat.le_of_ble_eq_true rfl, Nat.le_of_ble_eq_true rfl⟩) ⟨px_blind, va_recv hK hP (ci := 1) (q0 := 0) rfl rfl, px_at hPc hK hDc⟩ rfl rfl hl.1 rfl (lv_room (Nat.le_of_ble_eq_true rfl)) dX2_processBlock_216 ⟨Nat.le_of_ble_eq_true rfl, Nat.le_of_ble_eq_true rfl⟩) hS (fun q _ h => hFc q h) hFc (fun u_ t H locs ht hvm hw hB hz1 hk1 hS => ?_)
            obtain ⟨hP1, hD1⟩ := hB
            rw [ht] at hP1
            obtain ⟨hP, hD⟩ := va_join (wr := [(h0, .inr (1, [.int 16, .ref hq, .int (bI true)])), (hq, .inl (cI, 32, .inl K)), (h3, .inl (cB, 16, .inl g))]) (w1 := [(h4, .inl (cB, 16, .inl (sd_l2b (sd_l2b o 0 (sd_fw K 16 (sd_in g)).2 8) 8 (sd_fw K 16 (sd_in g)).1 8)))]) hP hD [3] [0, 1, 2] rfl rfl (by decide) (by decide) hk1 hFc hP1 hD1
            have hP := hP.sub (ws' := [(h0, .inr (1, [.int 16, .ref hq, .int (bI true)])), (hq, .inl (cI, 32, .inl K)), (h3, .inl (cB, 16, .inl g)), (h4, .inl (cB, 16, .inl (sd_l2b (sd_l2b o 0 (sd_fw K 16 (sd_in g)).2 8) 8 (sd_fw K 16 (sd_in g)).1 8)))]) [0, 1, 2, 3] rfl
            have hD := hD.sub (ws' := [(h0, .inr (1, [.int 16, .ref hq, .int (bI true)])), (hq, .inl (cI, 32, .inl K)), (h3, .inl (cB, 16, .inl g)), (h4, .inl (cB, 16, .inl (sd_l2b (sd_l2b o 0 (sd_fw K 16 (sd_in g)).2 8) 8 (sd_fw K 16 (sd_in g)).1 8)))]) [0, 1, 2, 3] (by decide) rfl
            refine lv_bipush (v := 16) hx hb dX2_processBlock_219 (by decide) ?_
            exact W.iret (v := 16) hx hb hr (fun t ht hW => ⟨⟨16, (), rfl, trivial, by rw [ht]; exact hP, hD⟩, hS.F ht⟩) hS.2.2 dX2_processBlock_221
          · exact absurd (by decide) c3
    · exact absurd (by decide) c1
  · exact absurd (by decide) c0
set_option maxHeartbeats 4000000 in
set_option maxRecDepth 100000 in
/-- processBlock: one block, opened -/
theorem mt_pbF (l : Launch) (D : va_G) (cB cI : ClassId) (h0 hq h3 h4 sz : Nat) (K g o : Nat → Int32) : Met l yX2_processBlock (ws_ yX2_processBlock cX2_processBlock 12 (some .int)) ({ frames := 4, cells := 0, slots := 0, locals := 97 }) (va_Pc [.ref h0, .ref h3, .int 0, .ref h4, .int 0] (py_ D [(h0, .inr (1, [.int 16, .ref hq, .int (bI false)])), (hq, .inl (cI, 32, .inl K)), (h3, .inl (cB, 16, .inl g)), (h4, .inl (cB, 16, .inl o))] (tyBI cB cI) sz)) (va_Qi (fun (_ : Int32) (_ : Unit) => True) (fun _ => wx_ D (va_A [(h0, .inr (1, [.int 16, .ref hq, .int (bI false)])), (hq, .inl (cI, 32, .inl K)), (h3, .inl (cB, 16, .inl g)), (h4, .inl (cB, 16, .inl o))] sz) [(h0, .inr (1, [.int 16, .ref hq, .int (bI false)])), (hq, .inl (cI, 32, .inl K)), (h3, .inl (cB, 16, .inl g)), (h4, .inl (cB, 16, .inl (sd_out o (sd_bw K 16 (sd_in g)))))]) (va_A [(h0, .inr (1, [.int 16, .ref hq, .int (bI false)])), (hq, .inl (cI, 32, .inl K)), (h3, .inl (cB, 16, .inl g)), (h4, .inl (cB, 16, .inl o))] sz)) 0 0 (va_A [(h0, .inr (1, [.int 16, .ref hq, .int (bI false)])), (hq, .inl (cI, 32, .inl K)), (h3, .inl (cB, 16, .inl g)), (h4, .inl (cB, 16, .inl o))] sz) := by
  refine Met.ofW (cc := cX2_processBlock) (maxL := 12) (ret := (some .int)) (by decide) rfl ?_
  intro p e s m args below meth c s₁ B hml hv
  obtain ⟨rfl, ⟨hsz, hP, hK, hD0⟩, hT0⟩ := hv
  have hx := B.exec
  have hb := B.bytes
  have hr := B.returns
  have hts := atoms_spec (ws := (ws_ yX2_processBlock cX2_processBlock 12 (some .int))) B.pre
  have hts : ∀ w ∈ lw_all, w.before _ s = true := fun w h => hts w (List.mem_cons_of_mem _ h)
  have hown : s.vm.findClass RX2 = some m.cls := findClass_of_methodNamed B.named
  have hlocks := B.notSynchronized
  subst hsz
  have hD := hD0.self (sz := s.heap.size)
  generalize hAe : va_A [(h0, .inr (1, [.int 16, .ref hq, .int (bI false)])), (hq, .inl (cI, 32, .inl K)), (h3, .inl (cB, 16, .inl g)), (h4, .inl (cB, 16, .inl o))] s.heap.size = A at hD hT0 ⊢
  have hA : ∀ q : Nat, s.heap.size ≤ q → A q := fun q h => by rw [← hAe]; exact Or.inr h
  have hS : va_S A s.heap s.heap [] := va_S.rf
  have hP : va_P D sCl [(h0, .inr (1, [.int 16, .ref hq, .int (bI false)])), (hq, .inl (cI, 32, .inl K)), (h3, .inl (cB, 16, .inl g)), (h4, .inl (cB, 16, .inl o))] s.heap := hP
  have hT : tb_ A s s.heap := hT0
  have hl := lv_entry ([.ref h0, .ref h3, .int 0, .ref h4, .int 0]) (n := 12) (Nat.le_of_ble_eq_true rfl)
  rw [lg_entry_eq]
  generalize (lg_sl ([.ref h0, .ref h3, .int 0, .ref h4, .int 0]) ++ List.replicate (12 - (lg_sl ([.ref h0, .ref h3, .int 0, .ref h4, .int 0])).length) Slot.unset).toArray = ls at hl ⊢
  have hl : lv_has ls 12 [(0, .ref h0), (1, .ref h3), (2, .int 0), (3, .ref h4), (4, .int 0)] := hl
  have hTn := tb_here (B := nn_) hT hS (fun _ h => h.elim)
  refine lv_aload_n hx hb dX2_processBlock_0 rfl (lv_at hl 0 rfl) ?_
  refine va_get (D := D) (ci := 1) (v := .ref hq) (C := RX2) (T := TX2) (N := 3) hx hb hts in_X2 hown hK hP 0 rfl rfl 1 (by decide) (hts _ q47) (fun _ h9 => h9) rfl dX2_processBlock_1 ?_
  refine lv_ifnonnull (tgt := 17) hx hb dX2_processBlock_4 (by decide) ?_
  refine lv_iload_n hx hb dX2_processBlock_17 rfl (lv_at hl 2 rfl) ?_
  refine lv_bipush (v := 16) hx hb dX2_processBlock_18 (by decide) ?_
  refine lv_iadd hx hb dX2_processBlock_20 ?_
  refine lv_aload_n hx hb dX2_processBlock_21 rfl (lv_at hl 1 rfl) ?_
  refine va_alen (v := 16) hx hb hK hP 2 0 rfl rfl rfl dX2_processBlock_22 ?_
  refine lv_icmp_le (tgt := 36) hx hb dX2_processBlock_23 (by decide) (fun c0 => ?_) (fun c0 => ?_)
  · refine lv_iload hx hb dX2_processBlock_36 (lv_at hl 4 rfl) ?_
    refine lv_bipush (v := 16) hx hb dX2_processBlock_38 (by decide) ?_
    refine lv_iadd hx hb dX2_processBlock_40 ?_
    refine lv_aload_n hx hb dX2_processBlock_41 rfl (lv_at hl 3 rfl) ?_
    refine va_alen (v := 16) hx hb hK hP 3 0 rfl rfl rfl dX2_processBlock_42 ?_
    refine lv_icmp_le (tgt := 56) hx hb dX2_processBlock_43 (by decide) (fun c1 => ?_) (fun c1 => ?_)
    · refine lv_aload_n hx hb dX2_processBlock_56 rfl (lv_at hl 0 rfl) ?_
      refine lv_aload_n hx hb dX2_processBlock_57 rfl (lv_at hl 1 rfl) ?_
      refine lv_iload_n hx hb dX2_processBlock_58 rfl (lv_at hl 2 rfl) ?_
      refine lv_iconst (v := 0) hx hb dX2_processBlock_59 (by decide) ?_
      refine lv_iadd hx hb dX2_processBlock_60 ?_
      refine tp_i (y := nI 0) (by decide) ?_
      refine cs_l (W.runV (As := [.ref h3, .int (nI 0)]) (rest := []) ⟨hx, hb, hml, hown, hts⟩ (mt_b2l l D _ cB cI 2 h0 h3 16 0 g rfl (by decide) (by decide)) (cwV 2 hts (lw_V q163 q165 qs3 q15 q166) rfl rfl rfl (by decide +kernel) ⟨Nat.le_of_ble_eq_true rfl, Nat.le_of_ble_eq_true rfl⟩) ⟨pu_blind, va_recv hK hP (ci := 1) (q0 := 0) rfl rfl, pu_at hP hK⟩ rfl rfl hl.1 rfl (lv_room (Nat.le_of_ble_eq_true rfl)) dX2_processBlock_61 ⟨Nat.le_of_ble_eq_true rfl, Nat.le_of_ble_eq_true rfl⟩) ?_
      refine lv_lstore (lv' := [(5, .long (sd_b2l g 0)), (0, .ref h0), (1, .ref h3), (2, .int 0), (3, .ref h4), (4, .int 0)]) hx hb dX2_processBlock_64 hl (by decide) rfl (fun ls hl => ?_)
      refine lv_aload_n hx hb dX2_processBlock_66 rfl (lv_at hl 1 rfl) ?_
      refine lv_aload_n hx hb dX2_processBlock_67 rfl (lv_at hl 2 rfl) ?_
      refine lv_iload_n hx hb dX2_processBlock_68 rfl (lv_at hl 3 rfl) ?_
      refine lv_bipush (v := 8) hx hb dX2_processBlock_69 (by decide) ?_
      refine lv_iadd hx hb dX2_processBlock_71 ?_
      refine tp_i (y := nI 8) (by decide) ?_
      refine cs_l (W.runV (As := [.ref h3, .int (nI 8)]) (rest := []) ⟨hx, hb, hml, hown, hts⟩ (mt_b2l l D _ cB cI 2 h0 h3 16 8 g rfl (by decide) (by decide)) (cwV 2 hts (lw_V q163 q165 qs3 q15 q166) rfl rfl rfl (by decide +kernel) ⟨Nat.le_of_ble_eq_true rfl, Nat.le_of_ble_eq_true rfl⟩) ⟨pu_blind, va_recv hK hP (ci := 1) (q0 := 0) rfl rfl, pu_at hP hK⟩ rfl rfl hl.1 rfl (lv_room (Nat.le_of_ble_eq_true rfl)) dX2_processBlock_72 ⟨Nat.le_of_ble_eq_true rfl, Nat.le_of_ble_eq_true rfl⟩) ?_
      refine lv_lstore (lv' := [(7, .long (sd_b2l g 8)), (5, .long (sd_b2l g 0)), (0, .ref h0), (1, .ref h3), (2, .int 0), (3, .ref h4), (4, .int 0)]) hx hb dX2_processBlock_75 hl (by decide) rfl (fun ls hl => ?_)
      refine lv_aload_n hx hb dX2_processBlock_77 rfl (lv_at hl 2 rfl) ?_
      refine va_get (D := D) (ci := 1) (v := .int (bI false)) (C := RX2) (T := TX2) (N := 3) hx hb hts in_X2 hown hK hP 0 rfl rfl 2 (by decide) (hts _ q48) (fun _ h9 => h9) rfl dX2_processBlock_78 ?_
      refine lv_if_eq (tgt := 142) hx hb dX2_processBlock_81 (by decide) (fun c2 => ?_) (fun c2 => ?_)
      · refine lv_bipush (v := 15) hx hb dX2_processBlock_142 (by decide) ?_
        refine tp_i (y := 15 - nI 0) (by decide) ?_
        refine lv_istore (lv' := [(9, .int (15 - nI 0)), (7, .long (sd_b2l g 8)), (5, .long (sd_b2l g 0)), (0, .ref h0), (1, .ref h3), (2, .int 0), (3, .ref h4), (4, .int 0)]) hx hb dX2_processBlock_144 hl (by decide) rfl (fun ls hl => ?_)
        refine lp_pure (fun i ls => lv_has ls 12 [(9, .int (15 - nI i)), (5, .long (sd_bw K i (sd_in g)).1), (7, .long (sd_bw K i (sd_in g)).2), (0, .ref h0), (1, .ref h3), (2, .int 0), (3, .ref h4), (4, .int 0)]) 16 (fun i ls hi hl ih => ?_) (fun ls hl => ?_) (lv_sub hl [0, 2, 1, 3, 4, 5, 6, 7] rfl)
        · refine lv_iload hx hb dX2_processBlock_146 (lv_at hl 0 rfl) ?_
          refine tp_i (y := nI (15 - i)) (pk_sub (a := 15) (by omega)) ?_
          refine lv_if_lt (tgt := 196) hx hb dX2_processBlock_148 (by decide) (fun c3 => ?_) (fun c3 => ?_)
          · exact absurd c3 (nI_pos (by omega))
          · refine lv_lload hx hb dX2_processBlock_151 (lv_at hl 2 rfl) ?_
            refine lv_lstore (lv' := [(10, .long (sd_bw K i (sd_in g)).2), (9, .int (15 - nI i)), (5, .long (sd_bw K i (sd_in g)).1), (7, .long (sd_bw K i (sd_in g)).2), (0, .ref h0), (1, .ref h3), (2, .int 0), (3, .ref h4), (4, .int 0)]) hx hb dX2_processBlock_153 hl (by decide) rfl (fun ls hl => ?_)
            refine lv_lload hx hb dX2_processBlock_155 (lv_at hl 2 rfl) ?_
            refine lv_aload_n hx hb dX2_processBlock_157 rfl (lv_at hl 4 rfl) ?_
            refine lv_aload_n hx hb dX2_processBlock_158 rfl (lv_at hl 4 rfl) ?_
            refine va_get (D := D) (ci := 1) (v := .ref hq) (C := RX2) (T := TX2) (N := 3) hx hb hts in_X2 hown hK hP 0 rfl rfl 1 (by decide) (hts _ q47) (fun _ h9 => h9) rfl dX2_processBlock_159 ?_
            refine lv_iconst (v := 2) hx hb dX2_processBlock_162 (by decide) ?_
            refine lv_iload hx hb dX2_processBlock_163 (lv_at hl 1 rfl) ?_
            refine tp_i (y := nI (15 - i)) (pk_sub (a := 15) (by omega)) ?_
            refine lv_imul hx hb dX2_processBlock_165 ?_
            refine tp_i (y := nI (2 * (15 - i))) (pk_mul 2 (15 - i)) ?_
            refine va_iald hx hb hK hP 1 1 rfl rfl (vp_in_nI (show 2 * (15 - i) < 32 by omega) (by decide)) dX2_processBlock_166 ?_
            refine tp_i (y := K (2 * (15 - i))) (by rw [nI_clamp (by omega)]) ?_
            refine lv_aload_n hx hb dX2_processBlock_167 rfl (lv_at hl 4 rfl) ?_
            refine va_get (D := D) (ci := 1) (v := .ref hq) (C := RX2) (T := TX2) (N := 3) hx hb hts in_X2 hown hK hP 0 rfl rfl 1 (by decide) (hts _ q47) (fun _ h9 => h9) rfl dX2_processBlock_168 ?_
            refine lv_iconst (v := 2) hx hb dX2_processBlock_171 (by decide) ?_
            refine lv_iload hx hb dX2_processBlock_172 (lv_at hl 1 rfl) ?_
            refine tp_i (y := nI (15 - i)) (pk_sub (a := 15) (by omega)) ?_
            refine lv_imul hx hb dX2_processBlock_174 ?_
            refine tp_i (y := nI (2 * (15 - i))) (pk_mul 2 (15 - i)) ?_
            refine lv_iconst (v := 1) hx hb dX2_processBlock_175 (by decide) ?_
            refine lv_iadd hx hb dX2_processBlock_176 ?_
            refine tp_i (y := nI (2 * (15 - i) + 1)) (nI_1 (2 * (15 - i))) ?_
            refine va_iald hx hb hK hP 1 1 rfl rfl (vp_in_nI (show 2 * (15 - i) + 1 < 32 by omega) (by decide)) dX2_processBlock_177 ?_
            refine tp_i (y := K (2 * (15 - i) + 1)) (by rw [nI_clamp (by omega)]) ?_
            refine lv_lload hx hb dX2_processBlock_178 (lv_at hl 3 rfl) ?_
            refine cs_l (W.runV (As := [.int (K (2 * (15 - i))), .int (K (2 * (15 - i) + 1)), .long (sd_bw K i (sd_in g)).2]) (rest := [.long (sd_bw K i (sd_in g)).1]) ⟨hx, hb, hml, hown, hts⟩ (mt_F l D _ _ 0 h0 _ rfl (K (2 * (15 - i))) (K (2 * (15 - i) + 1)) (sd_bw K i (sd_in g)).2) (cwV 3 hts (lw_V q260 q262 qs9 q15 q263) rfl rfl rfl (by decide +kernel) ⟨Nat.le_of_ble_eq_true rfl, Nat.le_of_ble_eq_true rfl⟩) ⟨pt_blind, va_recv hK hP (ci := 1) (q0 := 0) rfl rfl, pt_at hP hK hTn⟩ rfl rfl hl.1 rfl (lv_room (Nat.le_of_ble_eq_true rfl)) dX2_processBlock_180 ⟨Nat.le_of_ble_eq_true rfl, Nat.le_of_ble_eq_true rfl⟩) ?_
            refine lv_lxor hx hb dX2_processBlock_183 ?_
            refine tp_l (y := (sd_bw K (i + 1) (sd_in g)).2) rfl ?_
            refine lv_lstore (lv' := [(7, .long ((sd_bw K (i + 1) (sd_in g)).2)), (10, .long (sd_bw K i (sd_in g)).2), (9, .int (15 - nI i)), (5, .long (sd_bw K i (sd_in g)).1), (0, .ref h0), (1, .ref h3), (2, .int 0), (3, .ref h4), (4, .int 0)]) hx hb dX2_processBlock_184 hl (by decide) rfl (fun ls hl => ?_)
            refine lv_lload hx hb dX2_processBlock_186 (lv_at hl 1 rfl) ?_
            refine tp_l (y := (sd_bw K (i + 1) (sd_in g)).1) rfl ?_
            refine lv_lstore (lv' := [(5, .long ((sd_bw K (i + 1) (sd_in g)).1)), (7, .long ((sd_bw K (i + 1) (sd_in g)).2)), (10, .long (sd_bw K i (sd_in g)).2), (9, .int (15 - nI i)), (0, .ref h0), (1, .ref h3), (2, .int 0), (3, .ref h4), (4, .int 0)]) hx hb dX2_processBlock_188 hl (by decide) rfl (fun ls hl => ?_)
            refine lv_iinc (v := 15 - nI (i + 1)) (lv' := [(9, .int (15 - nI (i + 1))), (5, .long ((sd_bw K (i + 1) (sd_in g)).1)), (7, .long ((sd_bw K (i + 1) (sd_in g)).2)), (10, .long (sd_bw K i (sd_in g)).2), (0, .ref h0), (1, .ref h3), (2, .int 0), (3, .ref h4), (4, .int 0)]) hx hb dX2_processBlock_190 hl (k := 3) rfl (dec_15 i) (by decide) rfl (fun ls hl => ?_)
            refine lv_goto (tgt := 146) hx hb dX2_processBlock_193 (by decide) ?_
            exact ih ls (lv_sub hl [0, 1, 2, 4, 5, 6, 7, 8] rfl)
        · refine lv_iload hx hb dX2_processBlock_146 (lv_at hl 0 rfl) ?_
          refine lv_if_lt (tgt := 196) hx hb dX2_processBlock_148 (by decide) (fun c3 => ?_) (fun c3 => ?_)
          · refine lv_aload_n hx hb dX2_processBlock_196 rfl (lv_at hl 3 rfl) ?_
            refine lv_aload_n hx hb dX2_processBlock_197 rfl (lv_at hl 6 rfl) ?_
            refine lv_iload hx hb dX2_processBlock_198 (lv_at hl 7 rfl) ?_
            refine lv_iconst (v := 0) hx hb dX2_processBlock_200 (by decide) ?_
            refine lv_iadd hx hb dX2_processBlock_201 ?_
            refine tp_i (y := nI 0) (by decide) ?_
            refine lv_lload hx hb dX2_processBlock_202 (lv_at hl 2 rfl) ?_
            have hPc := hP.sub (ws' := [(h4, .inl (cB, 16, .inl o))]) [3] rfl
            have hDc := hD.sub (ws' := [(h4, .inl (cB, 16, .inl o))]) [3] (by decide) rfl
            have hFc := va_free (wc := [(h4, .inl (cB, 16, .inl o))]) hD hS hA [3] rfl
            refine va_callv (va_runV (As := [.ref h4, .int (nI 0), .long (sd_bw K 16 (sd_in g)).2]) (rest := []) ⟨hx, hb, hml, hown, hts⟩ (mt_l2b l D cB cI h0 h4 16 0 _ o (sd_bw K 16 (sd_in g)).2 (by decide) (by decide)) (cwV 3 hts (lw_V q273 q275 qs12 q15 q276) rfl rfl rfl (by decide +kernel) ⟨Nat.le_of_ble_eq_true rfl, Nat.le_of_ble_eq_true rfl⟩) ⟨px_blind, va_recv hK hP (ci := 1) (q0 := 0) rfl rfl, px_at hPc hK hDc⟩ rfl rfl hl.1 rfl (lv_room (Nat.le_of_ble_eq_true rfl)) dX2_processBlock_204 ⟨Nat.le_of_ble_eq_true rfl, Nat.le_of_ble_eq_true rfl⟩) hS (fun q _ h => hFc q h) hFc (fun u_ t H locs ht hvm hw hB hz1 hk1 hS => ?_)
            obtain ⟨hP1, hD1⟩ := hB
            rw [ht] at hP1
            obtain ⟨hP, hD⟩ := va_join (wr := [(h0, .inr (1, [.int 16, .ref hq, .int (bI false)])), (hq, .inl (cI, 32, .inl K)), (h3, .inl (cB, 16, .inl g))]) (w1 := [(h4, .inl (cB, 16, .inl (sd_l2b o 0 (sd_bw K 16 (sd_in g)).2 8)))]) hP hD [3] [0, 1, 2] rfl rfl (by decide) (by decide) hk1 hFc hP1 hD1
            have hP := hP.sub (ws' := [(h0, .inr (1, [.int 16, .ref hq, .int (bI false)])), (hq, .inl (cI, 32, .inl K)), (h3, .inl (cB, 16, .inl g)), (h4, .inl (cB, 16, .inl (sd_l2b o 0 (sd_bw K 16 (sd_in g)).2 8)))]) [0, 1, 2, 3] rfl
            have hD := hD.sub (ws' := [(h0, .inr (1, [.int 16, .ref hq, .int (bI false)])), (hq, .inl (cI, 32, .inl K)), (h3, .inl (cB, 16, .inl g)), (h4, .inl (cB, 16, .inl (sd_l2b o 0 (sd_bw K 16 (sd_in g)).2 8)))]) [0, 1, 2, 3] (by decide) rfl
            refine lv_aload_n hx hb dX2_processBlock_207 rfl (lv_at hl 3 rfl) ?_
            refine lv_aload_n hx hb dX2_processBlock_208 rfl (lv_at hl 6 rfl) ?_
            refine lv_iload hx hb dX2_processBlock_209 (lv_at hl 7 rfl) ?_
            refine lv_bipush (v := 8) hx hb dX2_processBlock_211 (by decide) ?_
            refine lv_iadd hx hb dX2_processBlock_213 ?_
            refine tp_i (y := nI 8) (by decide) ?_
            refine lv_lload hx hb dX2_processBlock_214 (lv_at hl 1 rfl) ?_
            have hPc := hP.sub (ws' := [(h4, .inl (cB, 16, .inl (sd_l2b o 0 (sd_bw K 16 (sd_in g)).2 8)))]) [3] rfl
            have hDc := hD.sub (ws' := [(h4, .inl (cB, 16, .inl (sd_l2b o 0 (sd_bw K 16 (sd_in g)).2 8)))]) [3] (by decide) rfl
            have hFc := va_free (wc := [(h4, .inl (cB, 16, .inl (sd_l2b o 0 (sd_bw K 16 (sd_in g)).2 8)))]) hD hS hA [3] rfl
            refine va_callv (va_runV (As := [.ref h4, .int (nI 8), .long (sd_bw K 16 (sd_in g)).1]) (rest := []) ⟨hx, hb, hml, hown, hts⟩ (mt_l2b l D cB cI h0 h4 16 8 _ (sd_l2b o 0 (sd_bw K 16 (sd_in g)).2 8) (sd_bw K 16 (sd_in g)).1 (by decide) (by decide)) (cwV 3 hts (lw_V q273 q275 qs12 q15 q276) rfl rfl rfl (by decide +kernel) ⟨Nat.le_of_ble_eq_true rfl, Nat.le_of_ble_eq_true rfl⟩) ⟨px_blind, va_recv hK hP (ci := 1) (q0 := 0) rfl rfl, px_at hPc hK hDc⟩ rfl rfl hl.1 rfl (lv_room (Nat.le_of_ble_eq_true rfl)) dX2_processBlock_216 ⟨Nat.le_of_ble_eq_true rfl, Nat.le_of_ble_eq_true rfl⟩) hS (fun q _ h => hFc q h) hFc (fun u_ t H locs ht hvm hw hB hz1 hk1 hS => ?_)
            obtain ⟨hP1, hD1⟩ := hB
            rw [ht] at hP1
            obtain ⟨hP, hD⟩ := va_join (wr := [(h0, .inr (1, [.int 16, .ref hq, .int (bI false)])), (hq, .inl (cI, 32, .inl K)), (h3, .inl (cB, 16, .inl g))]) (w1 := [(h4, .inl (cB, 16, .inl (sd_l2b (sd_l2b o 0 (sd_bw K 16 (sd_in g)).2 8) 8 (sd_bw K 16 (sd_in g)).1 8)))]) hP hD [3] [0, 1, 2] rfl rfl (by decide) (by decide) hk1 hFc hP1 hD1
            have hP := hP.sub (ws' := [(h0, .inr (1, [.int 16, .ref hq, .int (bI false)])), (hq, .inl (cI, 32, .inl K)), (h3, .inl (cB, 16, .inl g)), (h4, .inl (cB, 16, .inl (sd_l2b (sd_l2b o 0 (sd_bw K 16 (sd_in g)).2 8) 8 (sd_bw K 16 (sd_in g)).1 8)))]) [0, 1, 2, 3] rfl
            have hD := hD.sub (ws' := [(h0, .inr (1, [.int 16, .ref hq, .int (bI false)])), (hq, .inl (cI, 32, .inl K)), (h3, .inl (cB, 16, .inl g)), (h4, .inl (cB, 16, .inl (sd_l2b (sd_l2b o 0 (sd_bw K 16 (sd_in g)).2 8) 8 (sd_bw K 16 (sd_in g)).1 8)))]) [0, 1, 2, 3] (by decide) rfl
            refine lv_bipush (v := 16) hx hb dX2_processBlock_219 (by decide) ?_
            exact W.iret (v := 16) hx hb hr (fun t ht hW => ⟨⟨16, (), rfl, trivial, by rw [ht]; exact hP, hD⟩, hS.F ht⟩) hS.2.2 dX2_processBlock_221
          · exact absurd (by decide) c3
      · exact absurd (by decide) c2
    · exact absurd (by decide) c1
  · exact absurd (by decide) c0
end
section
/-! SeedDesk: word, key, block, size, again, out, the constructor, run, lock, open (printed by w_desk.py) -/
theorem st_wd (f : Nat → Int32) (a j : Nat) (x : Int32) (h : a + j < 2 ^ 31) : upd f (nI (a + j)).toNatClampNeg (vp_nar .byte x.toInt8.toInt32) = upd f (a + j) x.toInt8.toInt32 := by
  rw [nI_clamp h, show vp_nar .byte x.toInt8.toInt32 = x.toInt8.toInt32 from pk_vb x]
set_option maxHeartbeats 4000000 in
set_option maxRecDepth 100000 in
/-- an int written as four bytes -/
theorem mt_wd (l : Launch) (D : va_G) (cB cI : ClassId) (h1 n at_ sz : Nat) (f : Nat → Int32) (w : Int32) (hn : at_ + 4 ≤ n) (hn2 : n < 2 ^ 31) : Met l yX1_word (ws_ yX1_word cX1_word 3 none) ({ frames := 0, cells := 0, slots := 0, locals := 0 }) (va_Pc [.ref h1, .int (nI at_), .int w] (px_ D [(h1, .inl (cB, n, .inl f))] (tyBI cB cI) sz)) (va_Qv (fun _ : Unit => True) (fun _ => wx_ D (va_A [(h1, .inl (cB, n, .inl f))] sz) [(h1, .inl (cB, n, .inl (sd_wd f at_ w)))]) (va_A [(h1, .inl (cB, n, .inl f))] sz)) 0 0 (va_A [(h1, .inl (cB, n, .inl f))] sz) := by
  refine Met.ofW (cc := cX1_word) (maxL := 3) (ret := none) (by decide) rfl ?_
  intro p e s m args below meth c s₁ B hml hv
  obtain ⟨rfl, hsz, hP, hK, hD0⟩ := hv
  have hx := B.exec
  have hb := B.bytes
  have hr := B.returns
  have hts := atoms_spec (ws := (ws_ yX1_word cX1_word 3 none)) B.pre
  have hts : ∀ w ∈ lw_all, w.before _ s = true := fun w h => hts w (List.mem_cons_of_mem _ h)
  have hown : s.vm.findClass RX1 = some m.cls := findClass_of_methodNamed B.named
  have hlocks := B.notSynchronized
  subst hsz
  have hD := hD0.self (sz := s.heap.size)
  generalize hAe : va_A [(h1, .inl (cB, n, .inl f))] s.heap.size = A at hD ⊢
  have hA : ∀ q : Nat, s.heap.size ≤ q → A q := fun q h => by rw [← hAe]; exact Or.inr h
  have hS : va_S A s.heap s.heap [] := va_S.rf
  have hP : va_P D sCl [(h1, .inl (cB, n, .inl f))] s.heap := hP
  have hl := lv_entry ([.ref h1, .int (nI at_), .int w]) (n := 3) (Nat.le_of_ble_eq_true rfl)
  rw [lg_entry_eq]
  generalize (lg_sl ([.ref h1, .int (nI at_), .int w]) ++ List.replicate (3 - (lg_sl ([.ref h1, .int (nI at_), .int w])).length) Slot.unset).toArray = ls at hl ⊢
  have hl : lv_has ls 3 [(0, .ref h1), (1, .int (nI at_)), (2, .int w)] := hl
  refine lv_aload_n hx hb dX1_word_0 rfl (lv_at hl 0 rfl) ?_
  refine lv_iload_n hx hb dX1_word_1 rfl (lv_at hl 1 rfl) ?_
  refine tp_i (y := nI (at_ + 0)) rfl ?_
  refine lv_iload_n hx hb dX1_word_2 rfl (lv_at hl 2 rfl) ?_
  refine lv_bipush (v := 24) hx hb dX1_word_3 (by decide) ?_
  refine lv_ishr hx hb dX1_word_5 ?_
  refine lv_i2b hx hb dX1_word_6 rfl ?_
  refine va_bast hx hb hK hP hD hS 0 0 rfl rfl (vp_in_nI (show at_ + 0 < n by omega) hn2) dX1_word_7 (fun H locs hP hD hS => ?_)
  have hP : va_P D sCl [(h1, .inl (cB, n, .inl (upd f (at_ + 0) (w >>> (24 &&& 31)).toInt8.toInt32)))] H := by rw [← (st_wd f at_ 0 (w >>> (24 &&& 31)) (by omega))]; exact hP
  have hD : va_D A [(h1, .inl (cB, n, .inl (upd f (at_ + 0) (w >>> (24 &&& 31)).toInt8.toInt32)))] := by rw [← (st_wd f at_ 0 (w >>> (24 &&& 31)) (by omega))]; exact hD
  refine lv_aload_n hx hb dX1_word_8 rfl (lv_at hl 0 rfl) ?_
  refine lv_iload_n hx hb dX1_word_9 rfl (lv_at hl 1 rfl) ?_
  refine lv_iconst (v := 1) hx hb dX1_word_10 (by decide) ?_
  refine lv_iadd hx hb dX1_word_11 ?_
  refine tp_i (y := nI (at_ + 1)) (nI_add at_ 1) ?_
  refine lv_iload_n hx hb dX1_word_12 rfl (lv_at hl 2 rfl) ?_
  refine lv_bipush (v := 16) hx hb dX1_word_13 (by decide) ?_
  refine lv_ishr hx hb dX1_word_15 ?_
  refine lv_i2b hx hb dX1_word_16 rfl ?_
  refine va_bast hx hb hK hP hD hS 0 0 rfl rfl (vp_in_nI (show at_ + 1 < n by omega) hn2) dX1_word_17 (fun H locs hP hD hS => ?_)
  have hP : va_P D sCl [(h1, .inl (cB, n, .inl (upd (upd f (at_ + 0) (w >>> (24 &&& 31)).toInt8.toInt32) (at_ + 1) (w >>> (16 &&& 31)).toInt8.toInt32)))] H := by rw [← (st_wd (upd f (at_ + 0) (w >>> (24 &&& 31)).toInt8.toInt32) at_ 1 (w >>> (16 &&& 31)) (by omega))]; exact hP
  have hD : va_D A [(h1, .inl (cB, n, .inl (upd (upd f (at_ + 0) (w >>> (24 &&& 31)).toInt8.toInt32) (at_ + 1) (w >>> (16 &&& 31)).toInt8.toInt32)))] := by rw [← (st_wd (upd f (at_ + 0) (w >>> (24 &&& 31)).toInt8.toInt32) at_ 1 (w >>> (16 &&& 31)) (by omega))]; exact hD
  refine lv_aload_n hx hb dX1_word_18 rfl (lv_at hl 0 rfl) ?_
  refine lv_iload_n hx hb dX1_word_19 rfl (lv_at hl 1 rfl) ?_
  refine lv_iconst (v := 2) hx hb dX1_word_20 (by decide) ?_
  refine lv_iadd hx hb dX1_word_21 ?_
  refine tp_i (y := nI (at_ + 2)) (nI_add at_ 2) ?_
  refine lv_iload_n hx hb dX1_word_22 rfl (lv_at hl 2 rfl) ?_
  refine lv_bipush (v := 8) hx hb dX1_word_23 (by decide) ?_
  refine lv_ishr hx hb dX1_word_25 ?_
  refine lv_i2b hx hb dX1_word_26 rfl ?_
  refine va_bast hx hb hK hP hD hS 0 0 rfl rfl (vp_in_nI (show at_ + 2 < n by omega) hn2) dX1_word_27 (fun H locs hP hD hS => ?_)
  have hP : va_P D sCl [(h1, .inl (cB, n, .inl (upd (upd (upd f (at_ + 0) (w >>> (24 &&& 31)).toInt8.toInt32) (at_ + 1) (w >>> (16 &&& 31)).toInt8.toInt32) (at_ + 2) (w >>> (8 &&& 31)).toInt8.toInt32)))] H := by rw [← (st_wd (upd (upd f (at_ + 0) (w >>> (24 &&& 31)).toInt8.toInt32) (at_ + 1) (w >>> (16 &&& 31)).toInt8.toInt32) at_ 2 (w >>> (8 &&& 31)) (by omega))]; exact hP
  have hD : va_D A [(h1, .inl (cB, n, .inl (upd (upd (upd f (at_ + 0) (w >>> (24 &&& 31)).toInt8.toInt32) (at_ + 1) (w >>> (16 &&& 31)).toInt8.toInt32) (at_ + 2) (w >>> (8 &&& 31)).toInt8.toInt32)))] := by rw [← (st_wd (upd (upd f (at_ + 0) (w >>> (24 &&& 31)).toInt8.toInt32) (at_ + 1) (w >>> (16 &&& 31)).toInt8.toInt32) at_ 2 (w >>> (8 &&& 31)) (by omega))]; exact hD
  refine lv_aload_n hx hb dX1_word_28 rfl (lv_at hl 0 rfl) ?_
  refine lv_iload_n hx hb dX1_word_29 rfl (lv_at hl 1 rfl) ?_
  refine lv_iconst (v := 3) hx hb dX1_word_30 (by decide) ?_
  refine lv_iadd hx hb dX1_word_31 ?_
  refine tp_i (y := nI (at_ + 3)) (nI_add at_ 3) ?_
  refine lv_iload_n hx hb dX1_word_32 rfl (lv_at hl 2 rfl) ?_
  refine lv_i2b hx hb dX1_word_33 rfl ?_
  refine va_bast hx hb hK hP hD hS 0 0 rfl rfl (vp_in_nI (show at_ + 3 < n by omega) hn2) dX1_word_34 (fun H locs hP hD hS => ?_)
  have hP : va_P D sCl [(h1, .inl (cB, n, .inl (upd (upd (upd (upd f (at_ + 0) (w >>> (24 &&& 31)).toInt8.toInt32) (at_ + 1) (w >>> (16 &&& 31)).toInt8.toInt32) (at_ + 2) (w >>> (8 &&& 31)).toInt8.toInt32) (at_ + 3) w.toInt8.toInt32)))] H := by rw [← (st_wd (upd (upd (upd f (at_ + 0) (w >>> (24 &&& 31)).toInt8.toInt32) (at_ + 1) (w >>> (16 &&& 31)).toInt8.toInt32) (at_ + 2) (w >>> (8 &&& 31)).toInt8.toInt32) at_ 3 w (by omega))]; exact hP
  have hD : va_D A [(h1, .inl (cB, n, .inl (upd (upd (upd (upd f (at_ + 0) (w >>> (24 &&& 31)).toInt8.toInt32) (at_ + 1) (w >>> (16 &&& 31)).toInt8.toInt32) (at_ + 2) (w >>> (8 &&& 31)).toInt8.toInt32) (at_ + 3) w.toInt8.toInt32)))] := by rw [← (st_wd (upd (upd (upd f (at_ + 0) (w >>> (24 &&& 31)).toInt8.toInt32) (at_ + 1) (w >>> (16 &&& 31)).toInt8.toInt32) (at_ + 2) (w >>> (8 &&& 31)).toInt8.toInt32) at_ 3 w (by omega))]; exact hD
  exact W.vret hx hb hr (fun t ht hW => ⟨⟨(), rfl, trivial, by rw [ht]; exact hP, hD⟩, hS.F ht⟩) hS.2.2 dX1_word_35
set_option maxHeartbeats 4000000 in
set_option maxRecDepth 100000 in
/-- key: sixteen bytes of the key -/
theorem mt_key (l : Launch) (D : va_G) (cB cI : ClassId) (h0 ka ba oa sz hb_ : Nat) (kf : Nat → Int32) (a b_ c_ d : Int32) (hh : hb_ < 2) : Met l yX1_key (ws_ yX1_key cX1_key 7 none) ({ frames := 1, cells := 0, slots := 0, locals := 22 }) (va_Pc [.ref h0, .int (nI hb_), .int a, .int b_, .int c_, .int d] (px_ D [(h0, .inr (0, [.ref ka, .ref ba, .ref oa])), (ka, .inl (cB, 32, .inl kf))] (tyBI cB cI) sz)) (va_Qv (fun _ : Unit => True) (fun _ => wx_ D (va_A [(h0, .inr (0, [.ref ka, .ref ba, .ref oa])), (ka, .inl (cB, 32, .inl kf))] sz) [(h0, .inr (0, [.ref ka, .ref ba, .ref oa])), (ka, .inl (cB, 32, .inl (sd_4w kf (16 * hb_) a b_ c_ d)))]) (va_A [(h0, .inr (0, [.ref ka, .ref ba, .ref oa])), (ka, .inl (cB, 32, .inl kf))] sz)) 0 0 (va_A [(h0, .inr (0, [.ref ka, .ref ba, .ref oa])), (ka, .inl (cB, 32, .inl kf))] sz) := by
  refine Met.ofW (cc := cX1_key) (maxL := 7) (ret := none) (by decide) rfl ?_
  intro p e s m args below meth c s₁ B hml hv
  obtain ⟨rfl, hsz, hP, hK, hD0⟩ := hv
  have hx := B.exec
  have hb := B.bytes
  have hr := B.returns
  have hts := atoms_spec (ws := (ws_ yX1_key cX1_key 7 none)) B.pre
  have hts : ∀ w ∈ lw_all, w.before _ s = true := fun w h => hts w (List.mem_cons_of_mem _ h)
  have hown : s.vm.findClass RX1 = some m.cls := findClass_of_methodNamed B.named
  have hlocks := B.notSynchronized
  subst hsz
  have hD := hD0.self (sz := s.heap.size)
  generalize hAe : va_A [(h0, .inr (0, [.ref ka, .ref ba, .ref oa])), (ka, .inl (cB, 32, .inl kf))] s.heap.size = A at hD ⊢
  have hA : ∀ q : Nat, s.heap.size ≤ q → A q := fun q h => by rw [← hAe]; exact Or.inr h
  have hS : va_S A s.heap s.heap [] := va_S.rf
  have hP : va_P D sCl [(h0, .inr (0, [.ref ka, .ref ba, .ref oa])), (ka, .inl (cB, 32, .inl kf))] s.heap := hP
  have hl := lv_entry ([.ref h0, .int (nI hb_), .int a, .int b_, .int c_, .int d]) (n := 7) (Nat.le_of_ble_eq_true rfl)
  rw [lg_entry_eq]
  generalize (lg_sl ([.ref h0, .int (nI hb_), .int a, .int b_, .int c_, .int d]) ++ List.replicate (7 - (lg_sl ([.ref h0, .int (nI hb_), .int a, .int b_, .int c_, .int d])).length) Slot.unset).toArray = ls at hl ⊢
  have hl : lv_has ls 7 [(0, .ref h0), (1, .int (nI hb_)), (2, .int a), (3, .int b_), (4, .int c_), (5, .int d)] := hl
  have hs : (nI hb_ &&& 1) <<< ((4 : Int32) &&& 31) = nI (16 * hb_) := by
    rcases (show hb_ = 0 ∨ hb_ = 1 by omega) with rfl | rfl <;> decide
  refine lv_iload_n hx hb dX1_key_0 rfl (lv_at hl 1 rfl) ?_
  refine lv_iconst (v := 1) hx hb dX1_key_1 (by decide) ?_
  refine lv_iand hx hb dX1_key_2 ?_
  refine lv_iconst (v := 4) hx hb dX1_key_3 (by decide) ?_
  refine lv_ishl hx hb dX1_key_4 ?_
  refine tp_i (y := nI (16 * hb_)) hs ?_
  refine lv_istore (lv' := [(6, .int (nI (16 * hb_))), (0, .ref h0), (1, .int (nI hb_)), (2, .int a), (3, .int b_), (4, .int c_), (5, .int d)]) hx hb dX1_key_5 hl (by decide) rfl (fun ls hl => ?_)
  refine lv_aload_n hx hb dX1_key_7 rfl (lv_at hl 1 rfl) ?_
  refine va_get (D := D) (ci := 0) (v := .ref ka) (C := RX1) (T := TX1) (N := 3) hx hb hts in_X1 hown hK hP 0 rfl rfl 0 (by decide) (hts _ q293) (fun _ h9 => h9) rfl dX1_key_8 ?_
  refine lv_iload hx hb dX1_key_11 (lv_at hl 0 rfl) ?_
  refine lv_iload_n hx hb dX1_key_13 rfl (lv_at hl 3 rfl) ?_
  have hPc := hP.sub (ws' := [(ka, .inl (cB, 32, .inl kf))]) [1] rfl
  have hDc := hD.sub (ws' := [(ka, .inl (cB, 32, .inl kf))]) [1] (by decide) rfl
  have hFc := va_free (wc := [(ka, .inl (cB, 32, .inl kf))]) hD hS hA [1] rfl
  refine va_callv (va_runS (As := [.ref ka, .int (nI (16 * hb_)), .int a]) (rest := []) ⟨hx, hb, hml, hown, hts⟩ (mt_wd l D cB cI ka 32 (16 * hb_) _ kf a (by omega) (by decide)) (va_cwS 3 hts (lw_S q310 q311 q14 q312) rfl rfl rfl (by decide +kernel) ⟨Nat.le_of_ble_eq_true rfl, Nat.le_of_ble_eq_true rfl⟩) ⟨px_blind, px_at hPc hK hDc⟩ rfl rfl hl.1 rfl (lv_room (Nat.le_of_ble_eq_true rfl)) dX1_key_14 ⟨Nat.le_of_ble_eq_true rfl, Nat.le_of_ble_eq_true rfl⟩) hS (fun q _ h => hFc q h) hFc (fun u_ t H locs ht hvm hw hB hz1 hk1 hS => ?_)
  obtain ⟨hP1, hD1⟩ := hB
  rw [ht] at hP1
  obtain ⟨hP, hD⟩ := va_join (wr := [(h0, .inr (0, [.ref ka, .ref ba, .ref oa]))]) (w1 := [(ka, .inl (cB, 32, .inl (sd_wd kf (16 * hb_) a)))]) hP hD [1] [0] rfl rfl (by decide) (by decide) hk1 hFc hP1 hD1
  have hP := hP.sub (ws' := [(h0, .inr (0, [.ref ka, .ref ba, .ref oa])), (ka, .inl (cB, 32, .inl (sd_wd kf (16 * hb_) a)))]) [0, 1] rfl
  have hD := hD.sub (ws' := [(h0, .inr (0, [.ref ka, .ref ba, .ref oa])), (ka, .inl (cB, 32, .inl (sd_wd kf (16 * hb_) a)))]) [0, 1] (by decide) rfl
  refine lv_aload_n hx hb dX1_key_17 rfl (lv_at hl 1 rfl) ?_
  refine va_get (D := D) (ci := 0) (v := .ref ka) (C := RX1) (T := TX1) (N := 3) hx hb hts in_X1 hown hK hP 0 rfl rfl 0 (by decide) (hts _ q293) (fun _ h9 => h9) rfl dX1_key_18 ?_
  refine lv_iload hx hb dX1_key_21 (lv_at hl 0 rfl) ?_
  refine lv_iconst (v := 4) hx hb dX1_key_23 (by decide) ?_
  refine lv_iadd hx hb dX1_key_24 ?_
  refine tp_i (y := nI (16 * hb_ + 4)) (nI_add (16 * hb_) 4) ?_
  refine lv_iload_n hx hb dX1_key_25 rfl (lv_at hl 4 rfl) ?_
  have hPc := hP.sub (ws' := [(ka, .inl (cB, 32, .inl (sd_wd kf (16 * hb_) a)))]) [1] rfl
  have hDc := hD.sub (ws' := [(ka, .inl (cB, 32, .inl (sd_wd kf (16 * hb_) a)))]) [1] (by decide) rfl
  have hFc := va_free (wc := [(ka, .inl (cB, 32, .inl (sd_wd kf (16 * hb_) a)))]) hD hS hA [1] rfl
  refine va_callv (va_runS (As := [.ref ka, .int (nI (16 * hb_ + 4)), .int b_]) (rest := []) ⟨hx, hb, hml, hown, hts⟩ (mt_wd l D cB cI ka 32 (16 * hb_ + 4) _ (sd_wd kf (16 * hb_) a) b_ (by omega) (by decide)) (va_cwS 3 hts (lw_S q310 q311 q14 q312) rfl rfl rfl (by decide +kernel) ⟨Nat.le_of_ble_eq_true rfl, Nat.le_of_ble_eq_true rfl⟩) ⟨px_blind, px_at hPc hK hDc⟩ rfl rfl hl.1 rfl (lv_room (Nat.le_of_ble_eq_true rfl)) dX1_key_26 ⟨Nat.le_of_ble_eq_true rfl, Nat.le_of_ble_eq_true rfl⟩) hS (fun q _ h => hFc q h) hFc (fun u_ t H locs ht hvm hw hB hz1 hk1 hS => ?_)
  obtain ⟨hP1, hD1⟩ := hB
  rw [ht] at hP1
  obtain ⟨hP, hD⟩ := va_join (wr := [(h0, .inr (0, [.ref ka, .ref ba, .ref oa]))]) (w1 := [(ka, .inl (cB, 32, .inl (sd_wd (sd_wd kf (16 * hb_) a) (16 * hb_ + 4) b_)))]) hP hD [1] [0] rfl rfl (by decide) (by decide) hk1 hFc hP1 hD1
  have hP := hP.sub (ws' := [(h0, .inr (0, [.ref ka, .ref ba, .ref oa])), (ka, .inl (cB, 32, .inl (sd_wd (sd_wd kf (16 * hb_) a) (16 * hb_ + 4) b_)))]) [0, 1] rfl
  have hD := hD.sub (ws' := [(h0, .inr (0, [.ref ka, .ref ba, .ref oa])), (ka, .inl (cB, 32, .inl (sd_wd (sd_wd kf (16 * hb_) a) (16 * hb_ + 4) b_)))]) [0, 1] (by decide) rfl
  refine lv_aload_n hx hb dX1_key_29 rfl (lv_at hl 1 rfl) ?_
  refine va_get (D := D) (ci := 0) (v := .ref ka) (C := RX1) (T := TX1) (N := 3) hx hb hts in_X1 hown hK hP 0 rfl rfl 0 (by decide) (hts _ q293) (fun _ h9 => h9) rfl dX1_key_30 ?_
  refine lv_iload hx hb dX1_key_33 (lv_at hl 0 rfl) ?_
  refine lv_bipush (v := 8) hx hb dX1_key_35 (by decide) ?_
  refine lv_iadd hx hb dX1_key_37 ?_
  refine tp_i (y := nI (16 * hb_ + 8)) (nI_add (16 * hb_) 8) ?_
  refine lv_iload hx hb dX1_key_38 (lv_at hl 5 rfl) ?_
  have hPc := hP.sub (ws' := [(ka, .inl (cB, 32, .inl (sd_wd (sd_wd kf (16 * hb_) a) (16 * hb_ + 4) b_)))]) [1] rfl
  have hDc := hD.sub (ws' := [(ka, .inl (cB, 32, .inl (sd_wd (sd_wd kf (16 * hb_) a) (16 * hb_ + 4) b_)))]) [1] (by decide) rfl
  have hFc := va_free (wc := [(ka, .inl (cB, 32, .inl (sd_wd (sd_wd kf (16 * hb_) a) (16 * hb_ + 4) b_)))]) hD hS hA [1] rfl
  refine va_callv (va_runS (As := [.ref ka, .int (nI (16 * hb_ + 8)), .int c_]) (rest := []) ⟨hx, hb, hml, hown, hts⟩ (mt_wd l D cB cI ka 32 (16 * hb_ + 8) _ (sd_wd (sd_wd kf (16 * hb_) a) (16 * hb_ + 4) b_) c_ (by omega) (by decide)) (va_cwS 3 hts (lw_S q310 q311 q14 q312) rfl rfl rfl (by decide +kernel) ⟨Nat.le_of_ble_eq_true rfl, Nat.le_of_ble_eq_true rfl⟩) ⟨px_blind, px_at hPc hK hDc⟩ rfl rfl hl.1 rfl (lv_room (Nat.le_of_ble_eq_true rfl)) dX1_key_40 ⟨Nat.le_of_ble_eq_true rfl, Nat.le_of_ble_eq_true rfl⟩) hS (fun q _ h => hFc q h) hFc (fun u_ t H locs ht hvm hw hB hz1 hk1 hS => ?_)
  obtain ⟨hP1, hD1⟩ := hB
  rw [ht] at hP1
  obtain ⟨hP, hD⟩ := va_join (wr := [(h0, .inr (0, [.ref ka, .ref ba, .ref oa]))]) (w1 := [(ka, .inl (cB, 32, .inl (sd_wd (sd_wd (sd_wd kf (16 * hb_) a) (16 * hb_ + 4) b_) (16 * hb_ + 8) c_)))]) hP hD [1] [0] rfl rfl (by decide) (by decide) hk1 hFc hP1 hD1
  have hP := hP.sub (ws' := [(h0, .inr (0, [.ref ka, .ref ba, .ref oa])), (ka, .inl (cB, 32, .inl (sd_wd (sd_wd (sd_wd kf (16 * hb_) a) (16 * hb_ + 4) b_) (16 * hb_ + 8) c_)))]) [0, 1] rfl
  have hD := hD.sub (ws' := [(h0, .inr (0, [.ref ka, .ref ba, .ref oa])), (ka, .inl (cB, 32, .inl (sd_wd (sd_wd (sd_wd kf (16 * hb_) a) (16 * hb_ + 4) b_) (16 * hb_ + 8) c_)))]) [0, 1] (by decide) rfl
  refine lv_aload_n hx hb dX1_key_43 rfl (lv_at hl 1 rfl) ?_
  refine va_get (D := D) (ci := 0) (v := .ref ka) (C := RX1) (T := TX1) (N := 3) hx hb hts in_X1 hown hK hP 0 rfl rfl 0 (by decide) (hts _ q293) (fun _ h9 => h9) rfl dX1_key_44 ?_
  refine lv_iload hx hb dX1_key_47 (lv_at hl 0 rfl) ?_
  refine lv_bipush (v := 12) hx hb dX1_key_49 (by decide) ?_
  refine lv_iadd hx hb dX1_key_51 ?_
  refine tp_i (y := nI (16 * hb_ + 12)) (nI_add (16 * hb_) 12) ?_
  refine lv_iload hx hb dX1_key_52 (lv_at hl 6 rfl) ?_
  have hPc := hP.sub (ws' := [(ka, .inl (cB, 32, .inl (sd_wd (sd_wd (sd_wd kf (16 * hb_) a) (16 * hb_ + 4) b_) (16 * hb_ + 8) c_)))]) [1] rfl
  have hDc := hD.sub (ws' := [(ka, .inl (cB, 32, .inl (sd_wd (sd_wd (sd_wd kf (16 * hb_) a) (16 * hb_ + 4) b_) (16 * hb_ + 8) c_)))]) [1] (by decide) rfl
  have hFc := va_free (wc := [(ka, .inl (cB, 32, .inl (sd_wd (sd_wd (sd_wd kf (16 * hb_) a) (16 * hb_ + 4) b_) (16 * hb_ + 8) c_)))]) hD hS hA [1] rfl
  refine va_callv (va_runS (As := [.ref ka, .int (nI (16 * hb_ + 12)), .int d]) (rest := []) ⟨hx, hb, hml, hown, hts⟩ (mt_wd l D cB cI ka 32 (16 * hb_ + 12) _ (sd_wd (sd_wd (sd_wd kf (16 * hb_) a) (16 * hb_ + 4) b_) (16 * hb_ + 8) c_) d (by omega) (by decide)) (va_cwS 3 hts (lw_S q310 q311 q14 q312) rfl rfl rfl (by decide +kernel) ⟨Nat.le_of_ble_eq_true rfl, Nat.le_of_ble_eq_true rfl⟩) ⟨px_blind, px_at hPc hK hDc⟩ rfl rfl hl.1 rfl (lv_room (Nat.le_of_ble_eq_true rfl)) dX1_key_54 ⟨Nat.le_of_ble_eq_true rfl, Nat.le_of_ble_eq_true rfl⟩) hS (fun q _ h => hFc q h) hFc (fun u_ t H locs ht hvm hw hB hz1 hk1 hS => ?_)
  obtain ⟨hP1, hD1⟩ := hB
  rw [ht] at hP1
  obtain ⟨hP, hD⟩ := va_join (wr := [(h0, .inr (0, [.ref ka, .ref ba, .ref oa]))]) (w1 := [(ka, .inl (cB, 32, .inl (sd_wd (sd_wd (sd_wd (sd_wd kf (16 * hb_) a) (16 * hb_ + 4) b_) (16 * hb_ + 8) c_) (16 * hb_ + 12) d)))]) hP hD [1] [0] rfl rfl (by decide) (by decide) hk1 hFc hP1 hD1
  have hP := hP.sub (ws' := [(h0, .inr (0, [.ref ka, .ref ba, .ref oa])), (ka, .inl (cB, 32, .inl (sd_wd (sd_wd (sd_wd (sd_wd kf (16 * hb_) a) (16 * hb_ + 4) b_) (16 * hb_ + 8) c_) (16 * hb_ + 12) d)))]) [0, 1] rfl
  have hD := hD.sub (ws' := [(h0, .inr (0, [.ref ka, .ref ba, .ref oa])), (ka, .inl (cB, 32, .inl (sd_wd (sd_wd (sd_wd (sd_wd kf (16 * hb_) a) (16 * hb_ + 4) b_) (16 * hb_ + 8) c_) (16 * hb_ + 12) d)))]) [0, 1] (by decide) rfl
  exact W.vret hx hb hr (fun t ht hW => ⟨⟨(), rfl, trivial, by rw [ht]; exact hP, hD⟩, hS.F ht⟩) hS.2.2 dX1_key_57
set_option maxHeartbeats 4000000 in
set_option maxRecDepth 100000 in
/-- block: the sixteen bytes -/
theorem mt_blk (l : Launch) (D : va_G) (cB cI : ClassId) (h0 ka ba oa sz : Nat) (g : Nat → Int32) (a b_ c_ d : Int32) : Met l yX1_block (ws_ yX1_block cX1_block 5 none) ({ frames := 1, cells := 0, slots := 0, locals := 22 }) (va_Pc [.ref h0, .int a, .int b_, .int c_, .int d] (px_ D [(h0, .inr (0, [.ref ka, .ref ba, .ref oa])), (ba, .inl (cB, 16, .inl g))] (tyBI cB cI) sz)) (va_Qv (fun _ : Unit => True) (fun _ => wx_ D (va_A [(h0, .inr (0, [.ref ka, .ref ba, .ref oa])), (ba, .inl (cB, 16, .inl g))] sz) [(h0, .inr (0, [.ref ka, .ref ba, .ref oa])), (ba, .inl (cB, 16, .inl (sd_4w g 0 a b_ c_ d)))]) (va_A [(h0, .inr (0, [.ref ka, .ref ba, .ref oa])), (ba, .inl (cB, 16, .inl g))] sz)) 0 0 (va_A [(h0, .inr (0, [.ref ka, .ref ba, .ref oa])), (ba, .inl (cB, 16, .inl g))] sz) := by
  refine Met.ofW (cc := cX1_block) (maxL := 5) (ret := none) (by decide) rfl ?_
  intro p e s m args below meth c s₁ B hml hv
  obtain ⟨rfl, hsz, hP, hK, hD0⟩ := hv
  have hx := B.exec
  have hb := B.bytes
  have hr := B.returns
  have hts := atoms_spec (ws := (ws_ yX1_block cX1_block 5 none)) B.pre
  have hts : ∀ w ∈ lw_all, w.before _ s = true := fun w h => hts w (List.mem_cons_of_mem _ h)
  have hown : s.vm.findClass RX1 = some m.cls := findClass_of_methodNamed B.named
  have hlocks := B.notSynchronized
  subst hsz
  have hD := hD0.self (sz := s.heap.size)
  generalize hAe : va_A [(h0, .inr (0, [.ref ka, .ref ba, .ref oa])), (ba, .inl (cB, 16, .inl g))] s.heap.size = A at hD ⊢
  have hA : ∀ q : Nat, s.heap.size ≤ q → A q := fun q h => by rw [← hAe]; exact Or.inr h
  have hS : va_S A s.heap s.heap [] := va_S.rf
  have hP : va_P D sCl [(h0, .inr (0, [.ref ka, .ref ba, .ref oa])), (ba, .inl (cB, 16, .inl g))] s.heap := hP
  have hl := lv_entry ([.ref h0, .int a, .int b_, .int c_, .int d]) (n := 5) (Nat.le_of_ble_eq_true rfl)
  rw [lg_entry_eq]
  generalize (lg_sl ([.ref h0, .int a, .int b_, .int c_, .int d]) ++ List.replicate (5 - (lg_sl ([.ref h0, .int a, .int b_, .int c_, .int d])).length) Slot.unset).toArray = ls at hl ⊢
  have hl : lv_has ls 5 [(0, .ref h0), (1, .int a), (2, .int b_), (3, .int c_), (4, .int d)] := hl
  refine lv_aload_n hx hb dX1_block_0 rfl (lv_at hl 0 rfl) ?_
  refine va_get (D := D) (ci := 0) (v := .ref ba) (C := RX1) (T := TX1) (N := 3) hx hb hts in_X1 hown hK hP 0 rfl rfl 1 (by decide) (hts _ q294) (fun _ h9 => h9) rfl dX1_block_1 ?_
  refine lv_iconst (v := 0) hx hb dX1_block_4 (by decide) ?_
  refine tp_i (y := nI 0) rfl ?_
  refine lv_iload_n hx hb dX1_block_5 rfl (lv_at hl 1 rfl) ?_
  have hPc := hP.sub (ws' := [(ba, .inl (cB, 16, .inl g))]) [1] rfl
  have hDc := hD.sub (ws' := [(ba, .inl (cB, 16, .inl g))]) [1] (by decide) rfl
  have hFc := va_free (wc := [(ba, .inl (cB, 16, .inl g))]) hD hS hA [1] rfl
  refine va_callv (va_runS (As := [.ref ba, .int (nI 0), .int a]) (rest := []) ⟨hx, hb, hml, hown, hts⟩ (mt_wd l D cB cI ba 16 0 _ g a (by omega) (by decide)) (va_cwS 3 hts (lw_S q310 q311 q14 q312) rfl rfl rfl (by decide +kernel) ⟨Nat.le_of_ble_eq_true rfl, Nat.le_of_ble_eq_true rfl⟩) ⟨px_blind, px_at hPc hK hDc⟩ rfl rfl hl.1 rfl (lv_room (Nat.le_of_ble_eq_true rfl)) dX1_block_6 ⟨Nat.le_of_ble_eq_true rfl, Nat.le_of_ble_eq_true rfl⟩) hS (fun q _ h => hFc q h) hFc (fun u_ t H locs ht hvm hw hB hz1 hk1 hS => ?_)
  obtain ⟨hP1, hD1⟩ := hB
  rw [ht] at hP1
  obtain ⟨hP, hD⟩ := va_join (wr := [(h0, .inr (0, [.ref ka, .ref ba, .ref oa]))]) (w1 := [(ba, .inl (cB, 16, .inl (sd_wd g 0 a)))]) hP hD [1] [0] rfl rfl (by decide) (by decide) hk1 hFc hP1 hD1
  have hP := hP.sub (ws' := [(h0, .inr (0, [.ref ka, .ref ba, .ref oa])), (ba, .inl (cB, 16, .inl (sd_wd g 0 a)))]) [0, 1] rfl
  have hD := hD.sub (ws' := [(h0, .inr (0, [.ref ka, .ref ba, .ref oa])), (ba, .inl (cB, 16, .inl (sd_wd g 0 a)))]) [0, 1] (by decide) rfl
  refine lv_aload_n hx hb dX1_block_9 rfl (lv_at hl 0 rfl) ?_
  refine va_get (D := D) (ci := 0) (v := .ref ba) (C := RX1) (T := TX1) (N := 3) hx hb hts in_X1 hown hK hP 0 rfl rfl 1 (by decide) (hts _ q294) (fun _ h9 => h9) rfl dX1_block_10 ?_
  refine lv_iconst (v := 4) hx hb dX1_block_13 (by decide) ?_
  refine tp_i (y := nI 4) rfl ?_
  refine lv_iload_n hx hb dX1_block_14 rfl (lv_at hl 2 rfl) ?_
  have hPc := hP.sub (ws' := [(ba, .inl (cB, 16, .inl (sd_wd g 0 a)))]) [1] rfl
  have hDc := hD.sub (ws' := [(ba, .inl (cB, 16, .inl (sd_wd g 0 a)))]) [1] (by decide) rfl
  have hFc := va_free (wc := [(ba, .inl (cB, 16, .inl (sd_wd g 0 a)))]) hD hS hA [1] rfl
  refine va_callv (va_runS (As := [.ref ba, .int (nI 4), .int b_]) (rest := []) ⟨hx, hb, hml, hown, hts⟩ (mt_wd l D cB cI ba 16 4 _ (sd_wd g 0 a) b_ (by omega) (by decide)) (va_cwS 3 hts (lw_S q310 q311 q14 q312) rfl rfl rfl (by decide +kernel) ⟨Nat.le_of_ble_eq_true rfl, Nat.le_of_ble_eq_true rfl⟩) ⟨px_blind, px_at hPc hK hDc⟩ rfl rfl hl.1 rfl (lv_room (Nat.le_of_ble_eq_true rfl)) dX1_block_15 ⟨Nat.le_of_ble_eq_true rfl, Nat.le_of_ble_eq_true rfl⟩) hS (fun q _ h => hFc q h) hFc (fun u_ t H locs ht hvm hw hB hz1 hk1 hS => ?_)
  obtain ⟨hP1, hD1⟩ := hB
  rw [ht] at hP1
  obtain ⟨hP, hD⟩ := va_join (wr := [(h0, .inr (0, [.ref ka, .ref ba, .ref oa]))]) (w1 := [(ba, .inl (cB, 16, .inl (sd_wd (sd_wd g 0 a) 4 b_)))]) hP hD [1] [0] rfl rfl (by decide) (by decide) hk1 hFc hP1 hD1
  have hP := hP.sub (ws' := [(h0, .inr (0, [.ref ka, .ref ba, .ref oa])), (ba, .inl (cB, 16, .inl (sd_wd (sd_wd g 0 a) 4 b_)))]) [0, 1] rfl
  have hD := hD.sub (ws' := [(h0, .inr (0, [.ref ka, .ref ba, .ref oa])), (ba, .inl (cB, 16, .inl (sd_wd (sd_wd g 0 a) 4 b_)))]) [0, 1] (by decide) rfl
  refine lv_aload_n hx hb dX1_block_18 rfl (lv_at hl 0 rfl) ?_
  refine va_get (D := D) (ci := 0) (v := .ref ba) (C := RX1) (T := TX1) (N := 3) hx hb hts in_X1 hown hK hP 0 rfl rfl 1 (by decide) (hts _ q294) (fun _ h9 => h9) rfl dX1_block_19 ?_
  refine lv_bipush (v := 8) hx hb dX1_block_22 (by decide) ?_
  refine tp_i (y := nI 8) rfl ?_
  refine lv_iload_n hx hb dX1_block_24 rfl (lv_at hl 3 rfl) ?_
  have hPc := hP.sub (ws' := [(ba, .inl (cB, 16, .inl (sd_wd (sd_wd g 0 a) 4 b_)))]) [1] rfl
  have hDc := hD.sub (ws' := [(ba, .inl (cB, 16, .inl (sd_wd (sd_wd g 0 a) 4 b_)))]) [1] (by decide) rfl
  have hFc := va_free (wc := [(ba, .inl (cB, 16, .inl (sd_wd (sd_wd g 0 a) 4 b_)))]) hD hS hA [1] rfl
  refine va_callv (va_runS (As := [.ref ba, .int (nI 8), .int c_]) (rest := []) ⟨hx, hb, hml, hown, hts⟩ (mt_wd l D cB cI ba 16 8 _ (sd_wd (sd_wd g 0 a) 4 b_) c_ (by omega) (by decide)) (va_cwS 3 hts (lw_S q310 q311 q14 q312) rfl rfl rfl (by decide +kernel) ⟨Nat.le_of_ble_eq_true rfl, Nat.le_of_ble_eq_true rfl⟩) ⟨px_blind, px_at hPc hK hDc⟩ rfl rfl hl.1 rfl (lv_room (Nat.le_of_ble_eq_true rfl)) dX1_block_25 ⟨Nat.le_of_ble_eq_true rfl, Nat.le_of_ble_eq_true rfl⟩) hS (fun q _ h => hFc q h) hFc (fun u_ t H locs ht hvm hw hB hz1 hk1 hS => ?_)
  obtain ⟨hP1, hD1⟩ := hB
  rw [ht] at hP1
  obtain ⟨hP, hD⟩ := va_join (wr := [(h0, .inr (0, [.ref ka, .ref ba, .ref oa]))]) (w1 := [(ba, .inl (cB, 16, .inl (sd_wd (sd_wd (sd_wd g 0 a) 4 b_) 8 c_)))]) hP hD [1] [0] rfl rfl (by decide) (by decide) hk1 hFc hP1 hD1
  have hP := hP.sub (ws' := [(h0, .inr (0, [.ref ka, .ref ba, .ref oa])), (ba, .inl (cB, 16, .inl (sd_wd (sd_wd (sd_wd g 0 a) 4 b_) 8 c_)))]) [0, 1] rfl
  have hD := hD.sub (ws' := [(h0, .inr (0, [.ref ka, .ref ba, .ref oa])), (ba, .inl (cB, 16, .inl (sd_wd (sd_wd (sd_wd g 0 a) 4 b_) 8 c_)))]) [0, 1] (by decide) rfl
  refine lv_aload_n hx hb dX1_block_28 rfl (lv_at hl 0 rfl) ?_
  refine va_get (D := D) (ci := 0) (v := .ref ba) (C := RX1) (T := TX1) (N := 3) hx hb hts in_X1 hown hK hP 0 rfl rfl 1 (by decide) (hts _ q294) (fun _ h9 => h9) rfl dX1_block_29 ?_
  refine lv_bipush (v := 12) hx hb dX1_block_32 (by decide) ?_
  refine tp_i (y := nI 12) rfl ?_
  refine lv_iload hx hb dX1_block_34 (lv_at hl 4 rfl) ?_
  have hPc := hP.sub (ws' := [(ba, .inl (cB, 16, .inl (sd_wd (sd_wd (sd_wd g 0 a) 4 b_) 8 c_)))]) [1] rfl
  have hDc := hD.sub (ws' := [(ba, .inl (cB, 16, .inl (sd_wd (sd_wd (sd_wd g 0 a) 4 b_) 8 c_)))]) [1] (by decide) rfl
  have hFc := va_free (wc := [(ba, .inl (cB, 16, .inl (sd_wd (sd_wd (sd_wd g 0 a) 4 b_) 8 c_)))]) hD hS hA [1] rfl
  refine va_callv (va_runS (As := [.ref ba, .int (nI 12), .int d]) (rest := []) ⟨hx, hb, hml, hown, hts⟩ (mt_wd l D cB cI ba 16 12 _ (sd_wd (sd_wd (sd_wd g 0 a) 4 b_) 8 c_) d (by omega) (by decide)) (va_cwS 3 hts (lw_S q310 q311 q14 q312) rfl rfl rfl (by decide +kernel) ⟨Nat.le_of_ble_eq_true rfl, Nat.le_of_ble_eq_true rfl⟩) ⟨px_blind, px_at hPc hK hDc⟩ rfl rfl hl.1 rfl (lv_room (Nat.le_of_ble_eq_true rfl)) dX1_block_36 ⟨Nat.le_of_ble_eq_true rfl, Nat.le_of_ble_eq_true rfl⟩) hS (fun q _ h => hFc q h) hFc (fun u_ t H locs ht hvm hw hB hz1 hk1 hS => ?_)
  obtain ⟨hP1, hD1⟩ := hB
  rw [ht] at hP1
  obtain ⟨hP, hD⟩ := va_join (wr := [(h0, .inr (0, [.ref ka, .ref ba, .ref oa]))]) (w1 := [(ba, .inl (cB, 16, .inl (sd_wd (sd_wd (sd_wd (sd_wd g 0 a) 4 b_) 8 c_) 12 d)))]) hP hD [1] [0] rfl rfl (by decide) (by decide) hk1 hFc hP1 hD1
  have hP := hP.sub (ws' := [(h0, .inr (0, [.ref ka, .ref ba, .ref oa])), (ba, .inl (cB, 16, .inl (sd_wd (sd_wd (sd_wd (sd_wd g 0 a) 4 b_) 8 c_) 12 d)))]) [0, 1] rfl
  have hD := hD.sub (ws' := [(h0, .inr (0, [.ref ka, .ref ba, .ref oa])), (ba, .inl (cB, 16, .inl (sd_wd (sd_wd (sd_wd (sd_wd g 0 a) 4 b_) 8 c_) 12 d)))]) [0, 1] (by decide) rfl
  exact W.vret hx hb hr (fun t ht hW => ⟨⟨(), rfl, trivial, by rw [ht]; exact hP, hD⟩, hS.F ht⟩) hS.2.2 dX1_block_39
set_option maxHeartbeats 4000000 in
set_option maxRecDepth 100000 in
/-- size: 16 -/
theorem mt_sz (l : Launch) (D : va_G) (ws : va_W) (tys : List (ClassId × FieldType)) (x : Int32) : Met l yX1_size (ws_ yX1_size cX1_size 1 (some .int)) ({ frames := 0, cells := 0, slots := 0, locals := 0 }) (va_Pc [.int x] (pu_ D ws tys)) (vp_Si (fun r => r = 16)) 0 0 (fun _ => False) := by
  refine Met.ofW (cc := cX1_size) (maxL := 1) (ret := (some .int)) (by decide) rfl ?_
  intro p e s m args below meth c s₁ B hml hv
  obtain ⟨rfl, hP, hK⟩ := hv
  have hx := B.exec
  have hb := B.bytes
  have hr := B.returns
  have hts := atoms_spec (ws := (ws_ yX1_size cX1_size 1 (some .int))) B.pre
  have hts : ∀ w ∈ lw_all, w.before _ s = true := fun w h => hts w (List.mem_cons_of_mem _ h)
  have hown : s.vm.findClass RX1 = some m.cls := findClass_of_methodNamed B.named
  have hlocks := B.notSynchronized
  have hS : va_S nn_ s.heap s.heap [] := va_S.rf
  have hl := lv_entry ([.int x]) (n := 1) (Nat.le_of_ble_eq_true rfl)
  rw [lg_entry_eq]
  generalize (lg_sl ([.int x]) ++ List.replicate (1 - (lg_sl ([.int x])).length) Slot.unset).toArray = ls at hl ⊢
  have hl : lv_has ls 1 [(0, .int x)] := hl
  refine lv_bipush (v := 16) hx hb dX1_size_0 (by decide) ?_
  exact W.iret (v := 16) hx hb hr (fun t ht hW => ⟨_, rfl, rfl, ht⟩) (fun q hq => by cases hq) dX1_size_2
set_option maxHeartbeats 4000000 in
set_option maxRecDepth 100000 in
/-- out(i): the i-th byte -/
theorem mt_out (l : Launch) (D : va_G) (ws : va_W) (cB cI : ClassId) (k1 k2 h0 ka ba oa i : Nat) (o : Nat → Int32) (hw1 : ws[k1]? = some (h0, .inr (0, [.ref ka, .ref ba, .ref oa]))) (hw2 : ws[k2]? = some (oa, .inl (cB, 16, .inl o))) (hi : i < 16) : Met l yX1_out (ws_ yX1_out cX1_out 2 (some .int)) ({ frames := 0, cells := 0, slots := 0, locals := 0 }) (va_Pc [.ref h0, .int (nI i)] (pu_ D ws (tyBI cB cI))) (vp_Si (fun r => r = o i &&& 255)) 0 0 (fun _ => False) := by
  refine Met.ofW (cc := cX1_out) (maxL := 2) (ret := (some .int)) (by decide) rfl ?_
  intro p e s m args below meth c s₁ B hml hv
  obtain ⟨rfl, hP, hK⟩ := hv
  have hx := B.exec
  have hb := B.bytes
  have hr := B.returns
  have hts := atoms_spec (ws := (ws_ yX1_out cX1_out 2 (some .int))) B.pre
  have hts : ∀ w ∈ lw_all, w.before _ s = true := fun w h => hts w (List.mem_cons_of_mem _ h)
  have hown : s.vm.findClass RX1 = some m.cls := findClass_of_methodNamed B.named
  have hlocks := B.notSynchronized
  have hS : va_S nn_ s.heap s.heap [] := va_S.rf
  have hl := lv_entry ([.ref h0, .int (nI i)]) (n := 2) (Nat.le_of_ble_eq_true rfl)
  rw [lg_entry_eq]
  generalize (lg_sl ([.ref h0, .int (nI i)]) ++ List.replicate (2 - (lg_sl ([.ref h0, .int (nI i)])).length) Slot.unset).toArray = ls at hl ⊢
  have hl : lv_has ls 2 [(0, .ref h0), (1, .int (nI i))] := hl
  refine lv_aload_n hx hb dX1_out_0 rfl (lv_at hl 0 rfl) ?_
  refine va_get (D := D) (ci := 0) (v := .ref oa) (C := RX1) (T := TX1) (N := 3) hx hb hts in_X1 hown hK hP k1 hw1 rfl 2 (by decide) (hts _ q295) (fun _ h9 => h9) rfl dX1_out_1 ?_
  refine lv_iload_n hx hb dX1_out_4 rfl (lv_at hl 1 rfl) ?_
  refine lv_bipush (v := 15) hx hb dX1_out_5 (by decide) ?_
  refine lv_iand hx hb dX1_out_7 ?_
  refine tp_i (y := nI i) (by rw [show nI i &&& 15 = nI (i % 2 ^ 4) from pk_andN (by omega) 4 (by decide), Nat.mod_eq_of_lt hi]) ?_
  refine va_bald hx hb hK hP k2 0 hw2 rfl (vp_in_nI hi (by decide)) dX1_out_8 ?_
  refine tp_i (y := o i) (by rw [nI_clamp (by omega)]) ?_
  refine lv_sipush (v := 255) hx hb dX1_out_9 (by decide) ?_
  refine lv_iand hx hb dX1_out_12 ?_
  exact W.iret (v := (o i &&& 255)) hx hb hr (fun t ht hW => ⟨_, rfl, rfl, ht⟩) (fun q hq => by cases hq) dX1_out_13
theorem st_ag (o g : Nat → Int32) (i : Nat) (h : i < 16) : upd (sd_again o g i) (nI i).toNatClampNeg (vp_nar .byte (o i)) = sd_again o g (i + 1) := by
  rw [nI_clamp (by omega), sd_again_s]
set_option maxHeartbeats 4000000 in
set_option maxRecDepth 100000 in
/-- again: what came out goes in -/
theorem mt_ag (l : Launch) (D : va_G) (cB cI : ClassId) (h0 ka ba oa sz : Nat) (g o : Nat → Int32) : Met l yX1_again (ws_ yX1_again cX1_again 2 none) ({ frames := 0, cells := 0, slots := 0, locals := 0 }) (va_Pc [.ref h0] (px_ D [(h0, .inr (0, [.ref ka, .ref ba, .ref oa])), (ba, .inl (cB, 16, .inl g)), (oa, .inl (cB, 16, .inl o))] (tyBI cB cI) sz)) (va_Qv (fun _ : Unit => True) (fun _ => wx_ D (va_A [(h0, .inr (0, [.ref ka, .ref ba, .ref oa])), (ba, .inl (cB, 16, .inl g)), (oa, .inl (cB, 16, .inl o))] sz) [(h0, .inr (0, [.ref ka, .ref ba, .ref oa])), (ba, .inl (cB, 16, .inl (sd_again o g 16))), (oa, .inl (cB, 16, .inl o))]) (va_A [(h0, .inr (0, [.ref ka, .ref ba, .ref oa])), (ba, .inl (cB, 16, .inl g)), (oa, .inl (cB, 16, .inl o))] sz)) 0 0 (va_A [(h0, .inr (0, [.ref ka, .ref ba, .ref oa])), (ba, .inl (cB, 16, .inl g)), (oa, .inl (cB, 16, .inl o))] sz) := by
  refine Met.ofW (cc := cX1_again) (maxL := 2) (ret := none) (by decide) rfl ?_
  intro p e s m args below meth c s₁ B hml hv
  obtain ⟨rfl, hsz, hP, hK, hD0⟩ := hv
  have hx := B.exec
  have hb := B.bytes
  have hr := B.returns
  have hts := atoms_spec (ws := (ws_ yX1_again cX1_again 2 none)) B.pre
  have hts : ∀ w ∈ lw_all, w.before _ s = true := fun w h => hts w (List.mem_cons_of_mem _ h)
  have hown : s.vm.findClass RX1 = some m.cls := findClass_of_methodNamed B.named
  have hlocks := B.notSynchronized
  subst hsz
  have hD := hD0.self (sz := s.heap.size)
  generalize hAe : va_A [(h0, .inr (0, [.ref ka, .ref ba, .ref oa])), (ba, .inl (cB, 16, .inl g)), (oa, .inl (cB, 16, .inl o))] s.heap.size = A at hD ⊢
  have hA : ∀ q : Nat, s.heap.size ≤ q → A q := fun q h => by rw [← hAe]; exact Or.inr h
  have hS : va_S A s.heap s.heap [] := va_S.rf
  have hP : va_P D sCl [(h0, .inr (0, [.ref ka, .ref ba, .ref oa])), (ba, .inl (cB, 16, .inl g)), (oa, .inl (cB, 16, .inl o))] s.heap := hP
  have hl := lv_entry ([.ref h0]) (n := 2) (Nat.le_of_ble_eq_true rfl)
  rw [lg_entry_eq]
  generalize (lg_sl ([.ref h0]) ++ List.replicate (2 - (lg_sl ([.ref h0])).length) Slot.unset).toArray = ls at hl ⊢
  have hl : lv_has ls 2 [(0, .ref h0)] := hl
  refine lv_iconst (v := 0) hx hb dX1_again_0 (by decide) ?_
  refine tp_i (y := nI 0) rfl ?_
  refine lv_istore_n (lv' := [(1, .int (nI 0)), (0, .ref h0)]) hx hb dX1_again_1 rfl hl (by decide) rfl (fun ls hl => ?_)
  refine lp_for (fun i H locs ls => va_P D sCl [(h0, .inr (0, [.ref ka, .ref ba, .ref oa])), (ba, .inl (cB, 16, .inl (sd_again o g i))), (oa, .inl (cB, 16, .inl o))] H ∧ va_D A [(h0, .inr (0, [.ref ka, .ref ba, .ref oa])), (ba, .inl (cB, 16, .inl (sd_again o g i))), (oa, .inl (cB, 16, .inl o))] ∧ va_S A s.heap H locs ∧ lv_has ls 2 [(1, .int (nI i)), (0, .ref h0)]) 16 (fun i H locs ls hi hI ih => ?_) (fun H locs ls hI => ?_) ⟨by rw [sd_again_0]; exact hP, by rw [sd_again_0]; exact hD, hS, lv_sub hl [0, 1] rfl⟩
  · obtain ⟨hP, hD, hS, hl⟩ := hI
    refine lv_iload_n hx hb dX1_again_2 rfl (lv_at hl 0 rfl) ?_
    refine lv_bipush (v := 16) hx hb dX1_again_3 (by decide) ?_
    refine lv_icmp_ge (tgt := 26) hx hb dX1_again_5 (by decide) (fun c0 => ?_) (fun c0 => ?_)
    · exact absurd c0 (nI_ge (by omega) (by omega) : ¬ nI 16 ≤ nI i)
    · refine lv_aload_n hx hb dX1_again_8 rfl (lv_at hl 1 rfl) ?_
      refine va_get (D := D) (ci := 0) (v := .ref ba) (C := RX1) (T := TX1) (N := 3) hx hb hts in_X1 hown hK hP 0 rfl rfl 1 (by decide) (hts _ q294) (fun _ h9 => h9) rfl dX1_again_9 ?_
      refine lv_iload_n hx hb dX1_again_12 rfl (lv_at hl 0 rfl) ?_
      refine lv_aload_n hx hb dX1_again_13 rfl (lv_at hl 1 rfl) ?_
      refine va_get (D := D) (ci := 0) (v := .ref oa) (C := RX1) (T := TX1) (N := 3) hx hb hts in_X1 hown hK hP 0 rfl rfl 2 (by decide) (hts _ q295) (fun _ h9 => h9) rfl dX1_again_14 ?_
      refine lv_iload_n hx hb dX1_again_17 rfl (lv_at hl 0 rfl) ?_
      refine va_bald hx hb hK hP 2 0 rfl rfl (vp_in_nI hi (by decide)) dX1_again_18 ?_
      refine tp_i (y := o i) (by rw [nI_clamp (by omega)]) ?_
      refine va_bast hx hb hK hP hD hS 1 0 rfl rfl (vp_in_nI hi (by decide)) dX1_again_19 (fun H locs hP hD hS => ?_)
      have hP : va_P D sCl [(h0, .inr (0, [.ref ka, .ref ba, .ref oa])), (ba, .inl (cB, 16, .inl (sd_again o g (i + 1)))), (oa, .inl (cB, 16, .inl o))] H := by rw [← (st_ag o g i hi)]; exact hP
      have hD : va_D A [(h0, .inr (0, [.ref ka, .ref ba, .ref oa])), (ba, .inl (cB, 16, .inl (sd_again o g (i + 1)))), (oa, .inl (cB, 16, .inl o))] := by rw [← (st_ag o g i hi)]; exact hD
      refine lv_iinc (v := nI (i + 1)) (lv' := [(1, .int (nI (i + 1))), (0, .ref h0)]) hx hb dX1_again_20 hl (k := 0) rfl (nI_inc i) (by decide) rfl (fun ls hl => ?_)
      refine lv_goto (tgt := 2) hx hb dX1_again_23 (by decide) ?_
      exact ih H locs ls ⟨hP, hD, hS, lv_sub hl [0, 1] rfl⟩
  · obtain ⟨hP, hD, hS, hl⟩ := hI
    refine lv_iload_n hx hb dX1_again_2 rfl (lv_at hl 0 rfl) ?_
    refine lv_bipush (v := 16) hx hb dX1_again_3 (by decide) ?_
    refine lv_icmp_ge (tgt := 26) hx hb dX1_again_5 (by decide) (fun c0 => ?_) (fun c0 => ?_)
    · exact W.vret hx hb hr (fun t ht hW => ⟨⟨(), rfl, trivial, by rw [ht]; exact hP, hD⟩, hS.F ht⟩) hS.2.2 dX1_again_26
    · exact absurd (by decide) c0
set_option maxHeartbeats 4000000 in
set_option maxRecDepth 100000 in
/-- SeedDesk(): three new arrays -/
theorem mt_sd (l : Launch) (D : va_G) (cB cI : ClassId) (h0 sz : Nat) (v0 v1 v2 : Value) : Met l yX1_init (ws_ yX1_init cX1_init 1 none) ({ frames := 1, cells := 3, slots := 64, locals := 12 }) (va_Pc [.ref h0] (px_ D [(h0, .inr (0, [v0, v1, v2]))] (tyBI cB cI) sz)) (va_Qv (fun _ : Nat × Nat × Nat => True) (fun u => wx_ D (va_A [(h0, .inr (0, [v0, v1, v2]))] sz) [(h0, .inr (0, [.ref u.1, .ref u.2.1, .ref u.2.2])), (u.1, .inl (cB, 32, .inl kn_z)), (u.2.1, .inl (cB, 16, .inl kn_z)), (u.2.2, .inl (cB, 16, .inl kn_z))]) (va_A [(h0, .inr (0, [v0, v1, v2]))] sz)) 3 64 (va_A [(h0, .inr (0, [v0, v1, v2]))] sz) := by
  refine Met.ofW (cc := cX1_init) (maxL := 1) (ret := none) (by decide) rfl ?_
  intro p e s m args below meth c s₁ B hml hv
  obtain ⟨rfl, hsz, hP, hK, hD0⟩ := hv
  have hx := B.exec
  have hb := B.bytes
  have hr := B.returns
  have hts := atoms_spec (ws := (ws_ yX1_init cX1_init 1 none)) B.pre
  have hts : ∀ w ∈ lw_all, w.before _ s = true := fun w h => hts w (List.mem_cons_of_mem _ h)
  have hown : s.vm.findClass RX1 = some m.cls := findClass_of_methodNamed B.named
  have hlocks := B.notSynchronized
  have hin : meth.name = "<init>" := (name_of_methodNamed B.named B.method).1
  subst hsz
  have hD := hD0.self (sz := s.heap.size)
  generalize hAe : va_A [(h0, .inr (0, [v0, v1, v2]))] s.heap.size = A at hD ⊢
  have hA : ∀ q : Nat, s.heap.size ≤ q → A q := fun q h => by rw [← hAe]; exact Or.inr h
  have hS : va_S A s.heap s.heap [] := va_S.rf
  have hP : va_P D sCl [(h0, .inr (0, [v0, v1, v2]))] s.heap := hP
  have hl := lv_entry ([.ref h0]) (n := 1) (Nat.le_of_ble_eq_true rfl)
  rw [lg_entry_eq]
  generalize (lg_sl ([.ref h0]) ++ List.replicate (1 - (lg_sl ([.ref h0])).length) Slot.unset).toArray = ls at hl ⊢
  have hl : lv_has ls 1 [(0, .ref h0)] := hl
  refine lv_aload_n hx hb dX1_init_0 rfl (lv_at hl 0 rfl) ?_
  refine W.objInit hx hb hown (hts _ q292) (hts _ q44) (hts _ q45) rfl (by rw [hml]; exact hl.1) rfl dX1_init_1 (Nat.le_of_ble_eq_true rfl) (Nat.le_of_ble_eq_true rfl) ?_
  refine W.eq (g2 := F0 m 4 ls []) rfl ?_
  refine lv_aload_n hx hb dX1_init_4 rfl (lv_at hl 0 rfl) ?_
  refine lv_bipush (v := 32) hx hb dX1_init_5 (by decide) ?_
  refine va_newa (atype := .byte) (ty := .byte) (a0 := (32, .inl kn_z)) hx hb (hts _ q56) rfl hK hP hD hS hA (fun _ => rfl) (by decide) (by decide) (Nat.le_of_ble_eq_true rfl) (Nat.le_of_ble_eq_true rfl) (Nat.le_of_ble_eq_true rfl) dX1_init_7 (fun q1 cA H hK2 hP hD hS => ?_)
  have hq := ty_same hK2
  rw [hq] at hP hD
  have hP : va_P D sCl [(h0, .inr (0, [v0, v1, v2])), (q1, .inl (cB, 32, .inl kn_z))] H := hP
  have hD : va_D A [(h0, .inr (0, [v0, v1, v2])), (q1, .inl (cB, 32, .inl kn_z))] := hD
  refine W.widen (k := 1) (n := 32) (Nat.le_of_ble_eq_true rfl) (Nat.le_of_ble_eq_true rfl) ?_
  refine va_putF (D := D) (ci := 0) (v := .ref q1) (ty := .array .byte) (C := RX1) (T := TX1) (N := 3) hx hb hts in_X1 tyX1 tyX1_ok nmX1 hown hK hP hD hS 0 rfl rfl 0 (by decide) (hts _ q293) (fun _ h9 => h9) rfl hin rfl (by decide +kernel) rfl rfl (Nat.le_of_ble_eq_true rfl) dX1_init_9 (fun H locs hP hD hS => ?_)
  have hP : va_P D sCl [(h0, .inr (0, [.ref q1, v1, v2])), (q1, .inl (cB, 32, .inl kn_z))] H := hP
  have hD : va_D A [(h0, .inr (0, [.ref q1, v1, v2])), (q1, .inl (cB, 32, .inl kn_z))] := hD
  refine lv_aload_n hx hb dX1_init_12 rfl (lv_at hl 0 rfl) ?_
  refine lv_bipush (v := 16) hx hb dX1_init_13 (by decide) ?_
  refine va_newa (atype := .byte) (ty := .byte) (a0 := (16, .inl kn_z)) hx hb (hts _ q56) rfl hK hP hD hS hA (fun _ => rfl) (by decide) (by decide) (Nat.le_of_ble_eq_true rfl) (Nat.le_of_ble_eq_true rfl) (Nat.le_of_ble_eq_true rfl) dX1_init_15 (fun q2 cA H hK2 hP hD hS => ?_)
  have hq := ty_same hK2
  rw [hq] at hP hD
  have hP : va_P D sCl [(h0, .inr (0, [.ref q1, v1, v2])), (q1, .inl (cB, 32, .inl kn_z)), (q2, .inl (cB, 16, .inl kn_z))] H := hP
  have hD : va_D A [(h0, .inr (0, [.ref q1, v1, v2])), (q1, .inl (cB, 32, .inl kn_z)), (q2, .inl (cB, 16, .inl kn_z))] := hD
  refine W.widen (k := 2) (n := 48) (Nat.le_of_ble_eq_true rfl) (Nat.le_of_ble_eq_true rfl) ?_
  refine va_putF (D := D) (ci := 0) (v := .ref q2) (ty := .array .byte) (C := RX1) (T := TX1) (N := 3) hx hb hts in_X1 tyX1 tyX1_ok nmX1 hown hK hP hD hS 0 rfl rfl 1 (by decide) (hts _ q294) (fun _ h9 => h9) rfl hin rfl (by decide +kernel) rfl rfl (Nat.le_of_ble_eq_true rfl) dX1_init_17 (fun H locs hP hD hS => ?_)
  have hP : va_P D sCl [(h0, .inr (0, [.ref q1, .ref q2, v2])), (q1, .inl (cB, 32, .inl kn_z)), (q2, .inl (cB, 16, .inl kn_z))] H := hP
  have hD : va_D A [(h0, .inr (0, [.ref q1, .ref q2, v2])), (q1, .inl (cB, 32, .inl kn_z)), (q2, .inl (cB, 16, .inl kn_z))] := hD
  refine lv_aload_n hx hb dX1_init_20 rfl (lv_at hl 0 rfl) ?_
  refine lv_bipush (v := 16) hx hb dX1_init_21 (by decide) ?_
  refine va_newa (atype := .byte) (ty := .byte) (a0 := (16, .inl kn_z)) hx hb (hts _ q56) rfl hK hP hD hS hA (fun _ => rfl) (by decide) (by decide) (Nat.le_of_ble_eq_true rfl) (Nat.le_of_ble_eq_true rfl) (Nat.le_of_ble_eq_true rfl) dX1_init_23 (fun q3 cA H hK2 hP hD hS => ?_)
  have hq := ty_same hK2
  rw [hq] at hP hD
  have hP : va_P D sCl [(h0, .inr (0, [.ref q1, .ref q2, v2])), (q1, .inl (cB, 32, .inl kn_z)), (q2, .inl (cB, 16, .inl kn_z)), (q3, .inl (cB, 16, .inl kn_z))] H := hP
  have hD : va_D A [(h0, .inr (0, [.ref q1, .ref q2, v2])), (q1, .inl (cB, 32, .inl kn_z)), (q2, .inl (cB, 16, .inl kn_z)), (q3, .inl (cB, 16, .inl kn_z))] := hD
  refine W.widen (k := 3) (n := 64) (Nat.le_of_ble_eq_true rfl) (Nat.le_of_ble_eq_true rfl) ?_
  refine va_putF (D := D) (ci := 0) (v := .ref q3) (ty := .array .byte) (C := RX1) (T := TX1) (N := 3) hx hb hts in_X1 tyX1 tyX1_ok nmX1 hown hK hP hD hS 0 rfl rfl 2 (by decide) (hts _ q295) (fun _ h9 => h9) rfl hin rfl (by decide +kernel) rfl rfl (Nat.le_of_ble_eq_true rfl) dX1_init_25 (fun H locs hP hD hS => ?_)
  have hP : va_P D sCl [(h0, .inr (0, [.ref q1, .ref q2, .ref q3])), (q1, .inl (cB, 32, .inl kn_z)), (q2, .inl (cB, 16, .inl kn_z)), (q3, .inl (cB, 16, .inl kn_z))] H := hP
  have hD : va_D A [(h0, .inr (0, [.ref q1, .ref q2, .ref q3])), (q1, .inl (cB, 32, .inl kn_z)), (q2, .inl (cB, 16, .inl kn_z)), (q3, .inl (cB, 16, .inl kn_z))] := hD
  exact W.vret hx hb hr (fun t ht hW => ⟨⟨(q1, q2, q3), rfl, trivial, by rw [ht]; exact hP, hD⟩, hS.F ht⟩) hS.2.2 dX1_init_28
theorem st_cp (kf : Nat → Int32) (i : Nat) (h : i < 16) : upd (sd_again kf kn_z i) (nI i).toNatClampNeg (vp_nar .byte (kf i)) = sd_again kf kn_z (i + 1) := by
  rw [nI_clamp (by omega), sd_again_s]
theorem sd_cp_fit (kf : Nat → Int32) (i : Nat) (h : i < 16) : fits .byte (.int (sd_again kf kn_z 16 i)) = true := by
  unfold sd_again
  rw [if_pos h, vp_nar_byte]
  exact pk_fb _
theorem sd_cp_key (kf : Nat → Int32) : sd_key (sd_cp (sd_again kf kn_z 16)) = sd_key kf := sd_key_congr (fun i hi => by
  unfold sd_cp
  rw [pk_cpy_in (Nat.zero_le i) (by omega), Nat.zero_add, Nat.sub_zero]
  unfold sd_again
  rw [if_pos hi, bp_n])
theorem sd_runT (kf g o : Nat → Int32) : sd_out o (sd_fw (sd_key (sd_cp (sd_again kf kn_z 16))) 16 (sd_in g)) = sd_run true kf g o := by rw [sd_cp_key]; rfl
theorem sd_runF (kf g o : Nat → Int32) : sd_out o (sd_bw (sd_key (sd_cp (sd_again kf kn_z 16))) 16 (sd_in g)) = sd_run false kf g o := by rw [sd_cp_key]; rfl
set_option maxHeartbeats 4000000 in
set_option maxRecDepth 100000 in
/-- run: one block locked -/
theorem mt_runT (l : Launch) (D : va_G) (cB cI : ClassId) (h0 ka ba oa sz : Nat) (kf g o : Nat → Int32) (z : Int32) : Met l yX1_run (ws_ yX1_run cX1_run 6 none) ({ frames := 5, cells := 5, slots := 68, locals := 128 }) (va_Pc [.ref h0, .int (bI true), .int z] (pz_ D [(h0, .inr (0, [.ref ka, .ref ba, .ref oa])), (ka, .inl (cB, 32, .inl kf)), (ba, .inl (cB, 16, .inl g)), (oa, .inl (cB, 16, .inl o))] (tyBI cB cI) sz)) (va_Qv (fun _ : Unit => True) (fun _ => wx_ D (va_A [(h0, .inr (0, [.ref ka, .ref ba, .ref oa])), (ka, .inl (cB, 32, .inl kf)), (ba, .inl (cB, 16, .inl g)), (oa, .inl (cB, 16, .inl o))] sz) [(h0, .inr (0, [.ref ka, .ref ba, .ref oa])), (ka, .inl (cB, 32, .inl kf)), (ba, .inl (cB, 16, .inl g)), (oa, .inl (cB, 16, .inl (sd_run true kf g o)))]) (va_A [(h0, .inr (0, [.ref ka, .ref ba, .ref oa])), (ka, .inl (cB, 32, .inl kf)), (ba, .inl (cB, 16, .inl g)), (oa, .inl (cB, 16, .inl o))] sz)) 5 68 (va_A [(h0, .inr (0, [.ref ka, .ref ba, .ref oa])), (ka, .inl (cB, 32, .inl kf)), (ba, .inl (cB, 16, .inl g)), (oa, .inl (cB, 16, .inl o))] sz) := by
  refine Met.ofW (cc := cX1_run) (maxL := 6) (ret := none) (by decide) rfl ?_
  intro p e s m args below meth c s₁ B hml hv
  obtain ⟨rfl, ⟨⟨hsz, hP, hK, hD0⟩, hT0⟩, hI⟩ := hv
  have hx := B.exec
  have hb := B.bytes
  have hr := B.returns
  have hts := atoms_spec (ws := (ws_ yX1_run cX1_run 6 none)) B.pre
  have hts : ∀ w ∈ lw_all, w.before _ s = true := fun w h => hts w (List.mem_cons_of_mem _ h)
  have hown : s.vm.findClass RX1 = some m.cls := findClass_of_methodNamed B.named
  have hlocks := B.notSynchronized
  subst hsz
  have hD := hD0.self (sz := s.heap.size)
  generalize hAe : va_A [(h0, .inr (0, [.ref ka, .ref ba, .ref oa])), (ka, .inl (cB, 32, .inl kf)), (ba, .inl (cB, 16, .inl g)), (oa, .inl (cB, 16, .inl o))] s.heap.size = A at hD hT0 ⊢
  have hA : ∀ q : Nat, s.heap.size ≤ q → A q := fun q h => by rw [← hAe]; exact Or.inr h
  have hS : va_S A s.heap s.heap [] := va_S.rf
  have hP : va_P D sCl [(h0, .inr (0, [.ref ka, .ref ba, .ref oa])), (ka, .inl (cB, 32, .inl kf)), (ba, .inl (cB, 16, .inl g)), (oa, .inl (cB, 16, .inl o))] s.heap := hP
  have hT : tb_ A s s.heap := hT0
  have hl := lv_entry ([.ref h0, .int (bI true), .int z]) (n := 6) (Nat.le_of_ble_eq_true rfl)
  rw [lg_entry_eq]
  generalize (lg_sl ([.ref h0, .int (bI true), .int z]) ++ List.replicate (6 - (lg_sl ([.ref h0, .int (bI true), .int z])).length) Slot.unset).toArray = ls at hl ⊢
  have hl : lv_has ls 6 [(0, .ref h0), (1, .int (bI true)), (2, .int z)] := hl
  refine lv_iload_n hx hb dX1_run_0 rfl (lv_at hl 2 rfl) ?_
  refine lv_iconst (v := 3) hx hb dX1_run_1 (by decide) ?_
  refine lv_iand hx hb dX1_run_2 ?_
  refine cs_i (W.runS (As := [.int (z &&& 3)]) (rest := []) ⟨hx, hb, hml, hown, hts⟩ (mt_sz l D _ _ (z &&& 3)) (va_cwS 1 hts (lw_S q35 q36 q14 q37) rfl rfl rfl (by decide +kernel) ⟨Nat.le_of_ble_eq_true rfl, Nat.le_of_ble_eq_true rfl⟩) ⟨pu_blind, pu_at hP hK⟩ rfl rfl hl.1 rfl (lv_room (Nat.le_of_ble_eq_true rfl)) dX1_run_3 ⟨Nat.le_of_ble_eq_true rfl, Nat.le_of_ble_eq_true rfl⟩) ?_
  refine lv_istore_n (lv' := [(3, .int 16), (0, .ref h0), (1, .int (bI true)), (2, .int z)]) hx hb dX1_run_6 rfl hl (by decide) rfl (fun ls hl => ?_)
  refine lv_iload_n hx hb dX1_run_7 rfl (lv_at hl 0 rfl) ?_
  refine va_newa (atype := .byte) (ty := .byte) (a0 := (16, .inl kn_z)) hx hb (hts _ q56) rfl hK hP hD hS hA (fun _ => rfl) (by decide) (by decide) (Nat.le_of_ble_eq_true rfl) (Nat.le_of_ble_eq_true rfl) (Nat.le_of_ble_eq_true rfl) dX1_run_8 (fun q1 cA H hK2 hP hD hS => ?_)
  have hq := ty_same hK2
  rw [hq] at hP hD
  have hP : va_P D sCl [(h0, .inr (0, [.ref ka, .ref ba, .ref oa])), (ka, .inl (cB, 32, .inl kf)), (ba, .inl (cB, 16, .inl g)), (oa, .inl (cB, 16, .inl o)), (q1, .inl (cB, 16, .inl kn_z))] H := hP
  have hD : va_D A [(h0, .inr (0, [.ref ka, .ref ba, .ref oa])), (ka, .inl (cB, 32, .inl kf)), (ba, .inl (cB, 16, .inl g)), (oa, .inl (cB, 16, .inl o)), (q1, .inl (cB, 16, .inl kn_z))] := hD
  refine W.widen (k := 1) (n := 16) (Nat.le_of_ble_eq_true rfl) (Nat.le_of_ble_eq_true rfl) ?_
  refine lv_astore (lv' := [(4, .ref q1), (3, .int 16), (0, .ref h0), (1, .int (bI true)), (2, .int z)]) hx hb dX1_run_10 hl (by decide) rfl (fun ls hl => ?_)
  refine lv_iconst (v := 0) hx hb dX1_run_12 (by decide) ?_
  refine tp_i (y := nI 0) rfl ?_
  refine lv_istore (lv' := [(5, .int (nI 0)), (4, .ref q1), (3, .int 16), (0, .ref h0), (1, .int (bI true)), (2, .int z)]) hx hb dX1_run_13 hl (by decide) rfl (fun ls hl => ?_)
  refine lp_for (fun i H locs ls => va_P D sCl [(h0, .inr (0, [.ref ka, .ref ba, .ref oa])), (ka, .inl (cB, 32, .inl kf)), (ba, .inl (cB, 16, .inl g)), (oa, .inl (cB, 16, .inl o)), (q1, .inl (cB, 16, .inl (sd_again kf kn_z i)))] H ∧ va_D A [(h0, .inr (0, [.ref ka, .ref ba, .ref oa])), (ka, .inl (cB, 32, .inl kf)), (ba, .inl (cB, 16, .inl g)), (oa, .inl (cB, 16, .inl o)), (q1, .inl (cB, 16, .inl (sd_again kf kn_z i)))] ∧ va_S A s.heap H locs ∧ lv_has ls 6 [(5, .int (nI i)), (4, .ref q1), (3, .int 16), (0, .ref h0), (1, .int (bI true)), (2, .int z)]) 16 (fun i H locs ls hi hI ih => ?_) (fun H locs ls hI => ?_) ⟨by rw [sd_again_0]; exact hP, by rw [sd_again_0]; exact hD, hS, lv_sub hl [0, 1, 2, 3, 4, 5] rfl⟩
  · obtain ⟨hP, hD, hS, hl⟩ := hI
    refine lv_iload hx hb dX1_run_15 (lv_at hl 0 rfl) ?_
    refine lv_iload_n hx hb dX1_run_17 rfl (lv_at hl 2 rfl) ?_
    refine lv_icmp_ge (tgt := 39) hx hb dX1_run_18 (by decide) (fun c0 => ?_) (fun c0 => ?_)
    · exact absurd c0 (nI_ge (by omega) (by omega) : ¬ nI 16 ≤ nI i)
    · refine lv_aload hx hb dX1_run_21 (lv_at hl 1 rfl) ?_
      refine lv_iload hx hb dX1_run_23 (lv_at hl 0 rfl) ?_
      refine lv_aload_n hx hb dX1_run_25 rfl (lv_at hl 3 rfl) ?_
      refine va_get (D := D) (ci := 0) (v := .ref ka) (C := RX1) (T := TX1) (N := 3) hx hb hts in_X1 hown hK hP 0 rfl rfl 0 (by decide) (hts _ q293) (fun _ h9 => h9) rfl dX1_run_26 ?_
      refine lv_iload hx hb dX1_run_29 (lv_at hl 0 rfl) ?_
      refine va_bald hx hb hK hP 1 0 rfl rfl (vp_in_nI (show i < 32 by omega) (by decide)) dX1_run_31 ?_
      refine tp_i (y := kf i) (by rw [nI_clamp (by omega)]) ?_
      refine va_bast hx hb hK hP hD hS 4 0 rfl rfl (vp_in_nI hi (by decide)) dX1_run_32 (fun H locs hP hD hS => ?_)
      have hP : va_P D sCl [(h0, .inr (0, [.ref ka, .ref ba, .ref oa])), (ka, .inl (cB, 32, .inl kf)), (ba, .inl (cB, 16, .inl g)), (oa, .inl (cB, 16, .inl o)), (q1, .inl (cB, 16, .inl (sd_again kf kn_z (i + 1))))] H := by rw [← (st_cp kf i hi)]; exact hP
      have hD : va_D A [(h0, .inr (0, [.ref ka, .ref ba, .ref oa])), (ka, .inl (cB, 32, .inl kf)), (ba, .inl (cB, 16, .inl g)), (oa, .inl (cB, 16, .inl o)), (q1, .inl (cB, 16, .inl (sd_again kf kn_z (i + 1))))] := by rw [← (st_cp kf i hi)]; exact hD
      refine lv_iinc (v := nI (i + 1)) (lv' := [(5, .int (nI (i + 1))), (4, .ref q1), (3, .int 16), (0, .ref h0), (1, .int (bI true)), (2, .int z)]) hx hb dX1_run_33 hl (k := 0) rfl (nI_inc i) (by decide) rfl (fun ls hl => ?_)
      refine lv_goto (tgt := 15) hx hb dX1_run_36 (by decide) ?_
      exact ih H locs ls ⟨hP, hD, hS, lv_sub hl [0, 1, 2, 3, 4, 5] rfl⟩
  · obtain ⟨hP, hD, hS, hl⟩ := hI
    refine lv_iload hx hb dX1_run_15 (lv_at hl 0 rfl) ?_
    refine lv_iload_n hx hb dX1_run_17 rfl (lv_at hl 2 rfl) ?_
    refine lv_icmp_ge (tgt := 39) hx hb dX1_run_18 (by decide) (fun c0 => ?_) (fun c0 => ?_)
    · refine va_new (ci := 1) (fs := [.int 0, .null, .int 0]) (C := RX2) (T := TX2) (N := 3) hx hb hts in_X2 tyX2 tyX2_ok hown (hts _ q38) (hts _ q39) (hts _ q15) hK hP hD hS hA rfl (fun j hj => by rcases (show j = 0 ∨ j = 1 ∨ j = 2 by omega) with rfl | rfl | rfl <;> rfl) (Nat.le_of_ble_eq_true rfl) (Nat.le_of_ble_eq_true rfl) dX1_run_39 (fun q2 H hP hD hS => ?_)
      have hP : va_P D sCl [(h0, .inr (0, [.ref ka, .ref ba, .ref oa])), (ka, .inl (cB, 32, .inl kf)), (ba, .inl (cB, 16, .inl g)), (oa, .inl (cB, 16, .inl o)), (q1, .inl (cB, 16, .inl (sd_again kf kn_z 16))), (q2, .inr (1, [.int 0, .null, .int 0]))] H := hP
      have hD : va_D A [(h0, .inr (0, [.ref ka, .ref ba, .ref oa])), (ka, .inl (cB, 32, .inl kf)), (ba, .inl (cB, 16, .inl g)), (oa, .inl (cB, 16, .inl o)), (q1, .inl (cB, 16, .inl (sd_again kf kn_z 16))), (q2, .inr (1, [.int 0, .null, .int 0]))] := hD
      refine W.widen (k := 2) (n := 19) (Nat.le_of_ble_eq_true rfl) (Nat.le_of_ble_eq_true rfl) ?_
      refine lv_dup hx hb dX1_run_42 rfl ?_
      have hPc := hP.sub (ws' := [(q2, .inr (1, [.int 0, .null, .int 0]))]) [5] rfl
      have hDc := hD.sub (ws' := [(q2, .inr (1, [.int 0, .null, .int 0]))]) [5] (by decide) rfl
      have hFc := va_free (wc := [(q2, .inr (1, [.int 0, .null, .int 0]))]) hD hS hA [5] rfl
      refine va_callv (va_runI (As := []) (rest := [.ref q2]) ⟨hx, hb, hml, hown, hts⟩ (mt_se l D cB cI q2 _ (.int 0) .null (.int 0)) (cwI 0 hts (lw_meth q42) rfl rfl rfl (hts _ q15) (hts _ q40) (hts _ q41) rfl (by decide +kernel) ⟨Nat.le_of_ble_eq_true rfl, Nat.le_of_ble_eq_true rfl⟩) ⟨px_blind, px_at hPc hK hDc⟩ rfl rfl hl.1 rfl (lv_room (Nat.le_of_ble_eq_true rfl)) dX1_run_43 ⟨Nat.le_of_ble_eq_true rfl, Nat.le_of_ble_eq_true rfl⟩) hS (fun q _ h => hFc q h) hFc (fun u_ t H locs ht hvm hw hB hz1 hk1 hS => ?_)
      obtain ⟨hP1, hD1⟩ := hB
      rw [ht] at hP1
      obtain ⟨hP, hD⟩ := va_join (wr := [(h0, .inr (0, [.ref ka, .ref ba, .ref oa])), (ka, .inl (cB, 32, .inl kf)), (ba, .inl (cB, 16, .inl g)), (oa, .inl (cB, 16, .inl o)), (q1, .inl (cB, 16, .inl (sd_again kf kn_z 16)))]) (w1 := [(q2, .inr (1, [.int 16, .null, .int 0]))]) hP hD [5] [0, 1, 2, 3, 4] rfl rfl (by decide) (by decide) hk1 hFc hP1 hD1
      have hP := hP.sub (ws' := [(h0, .inr (0, [.ref ka, .ref ba, .ref oa])), (ka, .inl (cB, 32, .inl kf)), (ba, .inl (cB, 16, .inl g)), (oa, .inl (cB, 16, .inl o)), (q1, .inl (cB, 16, .inl (sd_again kf kn_z 16))), (q2, .inr (1, [.int 16, .null, .int 0]))]) [0, 1, 2, 3, 4, 5] rfl
      have hD := hD.sub (ws' := [(h0, .inr (0, [.ref ka, .ref ba, .ref oa])), (ka, .inl (cB, 32, .inl kf)), (ba, .inl (cB, 16, .inl g)), (oa, .inl (cB, 16, .inl o)), (q1, .inl (cB, 16, .inl (sd_again kf kn_z 16))), (q2, .inr (1, [.int 16, .null, .int 0]))]) [0, 1, 2, 3, 4, 5] (by decide) rfl
      refine lv_astore (lv' := [(5, .ref q2), (4, .ref q1), (3, .int 16), (0, .ref h0), (1, .int (bI true)), (2, .int z)]) hx hb dX1_run_46 hl (by decide) rfl (fun ls hl => ?_)
      refine lv_aload hx hb dX1_run_48 (lv_at hl 0 rfl) ?_
      refine lv_iload_n hx hb dX1_run_50 rfl (lv_at hl 4 rfl) ?_
      refine va_new (ci := 2) (fs := [.null]) (C := RX3) (T := TX3) (N := 1) hx hb hts in_X3 tyX3 tyX3_ok hown (hts _ q57) (hts _ q58) (hts _ q16) hK hP hD hS hA rfl (fun j hj => by rcases (show j = 0 by omega) with rfl <;> rfl) (Nat.le_of_ble_eq_true rfl) (Nat.le_of_ble_eq_true rfl) dX1_run_51 (fun q3 H hP hD hS => ?_)
      have hP : va_P D sCl [(h0, .inr (0, [.ref ka, .ref ba, .ref oa])), (ka, .inl (cB, 32, .inl kf)), (ba, .inl (cB, 16, .inl g)), (oa, .inl (cB, 16, .inl o)), (q1, .inl (cB, 16, .inl (sd_again kf kn_z 16))), (q2, .inr (1, [.int 16, .null, .int 0])), (q3, .inr (2, [.null]))] H := hP
      have hD : va_D A [(h0, .inr (0, [.ref ka, .ref ba, .ref oa])), (ka, .inl (cB, 32, .inl kf)), (ba, .inl (cB, 16, .inl g)), (oa, .inl (cB, 16, .inl o)), (q1, .inl (cB, 16, .inl (sd_again kf kn_z 16))), (q2, .inr (1, [.int 16, .null, .int 0])), (q3, .inr (2, [.null]))] := hD
      refine W.widen (k := 3) (n := 20) (Nat.le_of_ble_eq_true rfl) (Nat.le_of_ble_eq_true rfl) ?_
      refine lv_dup hx hb dX1_run_54 rfl ?_
      refine lv_aload hx hb dX1_run_55 (lv_at hl 1 rfl) ?_
      have hPc := hP.sub (ws' := [(q3, .inr (2, [.null])), (q1, .inl (cB, 16, .inl (sd_again kf kn_z 16)))]) [6, 4] rfl
      have hDc := hD.sub (ws' := [(q3, .inr (2, [.null])), (q1, .inl (cB, 16, .inl (sd_again kf kn_z 16)))]) [6, 4] (by decide) rfl
      have hFc := va_free (wc := [(q3, .inr (2, [.null])), (q1, .inl (cB, 16, .inl (sd_again kf kn_z 16)))]) hD hS hA [6, 4] rfl
      refine va_callv (va_runI (As := [.ref q1]) (rest := [.ref q3, .int (bI true), .ref q2]) ⟨hx, hb, hml, hown, hts⟩ (mt_kp l D cB cI q3 q1 _ .null (sd_again kf kn_z 16) (sd_cp_fit kf)) (cwI 1 hts (lw_meth q61) rfl rfl rfl (hts _ q16) (hts _ q59) (hts _ q60) rfl (by decide +kernel) ⟨Nat.le_of_ble_eq_true rfl, Nat.le_of_ble_eq_true rfl⟩) ⟨px_blind, px_at hPc hK hDc⟩ rfl rfl hl.1 rfl (lv_room (Nat.le_of_ble_eq_true rfl)) dX1_run_57 ⟨Nat.le_of_ble_eq_true rfl, Nat.le_of_ble_eq_true rfl⟩) hS (fun q _ h => hFc q h) hFc (fun q4 t H locs ht hvm hw hB hz1 hk1 hS => ?_)
      obtain ⟨hP1, hD1⟩ := hB
      rw [ht] at hP1
      obtain ⟨hP, hD⟩ := va_join (wr := [(h0, .inr (0, [.ref ka, .ref ba, .ref oa])), (ka, .inl (cB, 32, .inl kf)), (ba, .inl (cB, 16, .inl g)), (oa, .inl (cB, 16, .inl o)), (q2, .inr (1, [.int 16, .null, .int 0]))]) (w1 := [(q3, .inr (2, [.ref q4])), (q1, .inl (cB, 16, .inl (sd_again kf kn_z 16))), (q4, .inl (cB, 16, .inl (sd_cp (sd_again kf kn_z 16))))]) hP hD [6, 4] [0, 1, 2, 3, 5] rfl rfl (by decide) (by decide) hk1 hFc hP1 hD1
      have hP := hP.sub (ws' := [(h0, .inr (0, [.ref ka, .ref ba, .ref oa])), (ka, .inl (cB, 32, .inl kf)), (ba, .inl (cB, 16, .inl g)), (oa, .inl (cB, 16, .inl o)), (q1, .inl (cB, 16, .inl (sd_again kf kn_z 16))), (q2, .inr (1, [.int 16, .null, .int 0])), (q3, .inr (2, [.ref q4])), (q4, .inl (cB, 16, .inl (sd_cp (sd_again kf kn_z 16))))]) [0, 1, 2, 3, 6, 4, 5, 7] rfl
      have hD := hD.sub (ws' := [(h0, .inr (0, [.ref ka, .ref ba, .ref oa])), (ka, .inl (cB, 32, .inl kf)), (ba, .inl (cB, 16, .inl g)), (oa, .inl (cB, 16, .inl o)), (q1, .inl (cB, 16, .inl (sd_again kf kn_z 16))), (q2, .inr (1, [.int 16, .null, .int 0])), (q3, .inr (2, [.ref q4])), (q4, .inl (cB, 16, .inl (sd_cp (sd_again kf kn_z 16))))]) [0, 1, 2, 3, 6, 4, 5, 7] (by decide) rfl
      refine W.widen (k := 4) (n := 36) (Nat.le_of_ble_eq_true rfl) (Nat.le_of_ble_eq_true rfl) ?_
      have hPc := hP.sub (ws' := [(q2, .inr (1, [.int 16, .null, .int 0])), (q3, .inr (2, [.ref q4])), (q4, .inl (cB, 16, .inl (sd_cp (sd_again kf kn_z 16))))]) [5, 6, 7] rfl
      have hDc := hD.sub (ws' := [(q2, .inr (1, [.int 16, .null, .int 0])), (q3, .inr (2, [.ref q4])), (q4, .inl (cB, 16, .inl (sd_cp (sd_again kf kn_z 16))))]) [5, 6, 7] (by decide) rfl
      have hFc := va_free (wc := [(q2, .inr (1, [.int 16, .null, .int 0])), (q3, .inr (2, [.ref q4])), (q4, .inl (cB, 16, .inl (sd_cp (sd_again kf kn_z 16))))]) hD hS hA [5, 6, 7] rfl
      have hTc := tb_here hT hS hFc
      refine va_callFv (va_runF (cC := D.1 1) (As := [.int (bI true), .ref q3]) (rest := []) (hK.1 1 _ rfl).2 ⟨hx, hb, hml, hown, hts⟩ (mt_in l D cB cI q2 q4 q3 _ .null (.int 0) true (sd_cp (sd_again kf kn_z 16))) (va_cwF 2 hts (lw_app (lw_in _ [77, 81, 83, 15] (by decide +kernel) (by decide +kernel)) (lw_meth q85)) rfl rfl rfl hI.1 (by decide +kernel) ⟨Nat.le_of_ble_eq_true rfl, Nat.le_of_ble_eq_true rfl⟩) ⟨py_blind, va_recv hK hP (ci := 1) (q0 := 5) rfl rfl, py_at hPc hK hDc hTc⟩ rfl rfl hl.1 rfl (lv_room (Nat.le_of_ble_eq_true rfl)) dX1_run_60 ⟨Nat.le_of_ble_eq_true rfl, Nat.le_of_ble_eq_true rfl⟩) hS (fun q _ h => hFc q h) hFc (fun q5 t H locs ht hvm hw hB hz1 hk1 hS => ?_)
      obtain ⟨hP1, hD1⟩ := hB
      rw [ht] at hP1
      obtain ⟨hP, hD⟩ := va_join (wr := [(h0, .inr (0, [.ref ka, .ref ba, .ref oa])), (ka, .inl (cB, 32, .inl kf)), (ba, .inl (cB, 16, .inl g)), (oa, .inl (cB, 16, .inl o)), (q1, .inl (cB, 16, .inl (sd_again kf kn_z 16)))]) (w1 := [(q2, .inr (1, [.int 16, .ref q5, .int (bI true)])), (q3, .inr (2, [.ref q4])), (q4, .inl (cB, 16, .inl (sd_cp (sd_again kf kn_z 16)))), (q5, .inl (cI, 32, .inl (sd_key (sd_cp (sd_again kf kn_z 16)))))]) hP hD [5, 6, 7] [0, 1, 2, 3, 4] rfl rfl (by decide) (by decide) hk1 hFc hP1 hD1
      have hP := hP.sub (ws' := [(h0, .inr (0, [.ref ka, .ref ba, .ref oa])), (ka, .inl (cB, 32, .inl kf)), (ba, .inl (cB, 16, .inl g)), (oa, .inl (cB, 16, .inl o)), (q1, .inl (cB, 16, .inl (sd_again kf kn_z 16))), (q2, .inr (1, [.int 16, .ref q5, .int (bI true)])), (q3, .inr (2, [.ref q4])), (q4, .inl (cB, 16, .inl (sd_cp (sd_again kf kn_z 16)))), (q5, .inl (cI, 32, .inl (sd_key (sd_cp (sd_again kf kn_z 16)))))]) [0, 1, 2, 3, 4, 5, 6, 7, 8] rfl
      have hD := hD.sub (ws' := [(h0, .inr (0, [.ref ka, .ref ba, .ref oa])), (ka, .inl (cB, 32, .inl kf)), (ba, .inl (cB, 16, .inl g)), (oa, .inl (cB, 16, .inl o)), (q1, .inl (cB, 16, .inl (sd_again kf kn_z 16))), (q2, .inr (1, [.int 16, .ref q5, .int (bI true)])), (q3, .inr (2, [.ref q4])), (q4, .inl (cB, 16, .inl (sd_cp (sd_again kf kn_z 16)))), (q5, .inl (cI, 32, .inl (sd_key (sd_cp (sd_again kf kn_z 16)))))]) [0, 1, 2, 3, 4, 5, 6, 7, 8] (by decide) rfl
      refine W.widen (k := 5) (n := 68) (Nat.le_of_ble_eq_true rfl) (Nat.le_of_ble_eq_true rfl) ?_
      refine lv_aload hx hb dX1_run_65 (lv_at hl 0 rfl) ?_
      refine lv_aload_n hx hb dX1_run_67 rfl (lv_at hl 3 rfl) ?_
      refine va_get (D := D) (ci := 0) (v := .ref ba) (C := RX1) (T := TX1) (N := 3) hx hb hts in_X1 hown hK hP 0 rfl rfl 1 (by decide) (hts _ q294) (fun _ h9 => h9) rfl dX1_run_68 ?_
      refine lv_iconst (v := 0) hx hb dX1_run_71 (by decide) ?_
      refine lv_aload_n hx hb dX1_run_72 rfl (lv_at hl 3 rfl) ?_
      refine va_get (D := D) (ci := 0) (v := .ref oa) (C := RX1) (T := TX1) (N := 3) hx hb hts in_X1 hown hK hP 0 rfl rfl 2 (by decide) (hts _ q295) (fun _ h9 => h9) rfl dX1_run_73 ?_
      refine lv_iconst (v := 0) hx hb dX1_run_76 (by decide) ?_
      have hPc := hP.sub (ws' := [(q2, .inr (1, [.int 16, .ref q5, .int (bI true)])), (q5, .inl (cI, 32, .inl (sd_key (sd_cp (sd_again kf kn_z 16))))), (ba, .inl (cB, 16, .inl g)), (oa, .inl (cB, 16, .inl o))]) [5, 8, 2, 3] rfl
      have hDc := hD.sub (ws' := [(q2, .inr (1, [.int 16, .ref q5, .int (bI true)])), (q5, .inl (cI, 32, .inl (sd_key (sd_cp (sd_again kf kn_z 16))))), (ba, .inl (cB, 16, .inl g)), (oa, .inl (cB, 16, .inl o))]) [5, 8, 2, 3] (by decide) rfl
      have hFc := va_free (wc := [(q2, .inr (1, [.int 16, .ref q5, .int (bI true)])), (q5, .inl (cI, 32, .inl (sd_key (sd_cp (sd_again kf kn_z 16))))), (ba, .inl (cB, 16, .inl g)), (oa, .inl (cB, 16, .inl o))]) hD hS hA [5, 8, 2, 3] rfl
      have hTc := tb_here hT hS hFc
      refine va_callFi (va_runF (cC := D.1 1) (As := [.ref ba, .int 0, .ref oa, .int 0]) (rest := []) (hK.1 1 _ rfl).2 ⟨hx, hb, hml, hown, hts⟩ (mt_pbT l D cB cI q2 q5 ba oa _ (sd_key (sd_cp (sd_again kf kn_z 16))) g o) (va_cwF 4 hts (lw_app (lw_in _ [198, 201, 203, 15] (by decide +kernel) (by decide +kernel)) (lw_meth q205)) rfl rfl rfl hI.2 (by decide +kernel) ⟨Nat.le_of_ble_eq_true rfl, Nat.le_of_ble_eq_true rfl⟩) ⟨py_blind, va_recv hK hP (ci := 1) (q0 := 5) rfl rfl, py_at hPc hK hDc hTc⟩ rfl rfl hl.1 rfl (lv_room (Nat.le_of_ble_eq_true rfl)) dX1_run_77 ⟨Nat.le_of_ble_eq_true rfl, Nat.le_of_ble_eq_true rfl⟩) hS (fun q _ h => hFc q h) hFc (fun r_ u_ t H locs ht hvm hw hB hz1 hk1 hS => ?_)
      obtain ⟨hP1, hD1⟩ := hB
      rw [ht] at hP1
      obtain ⟨hP, hD⟩ := va_join (wr := [(h0, .inr (0, [.ref ka, .ref ba, .ref oa])), (ka, .inl (cB, 32, .inl kf)), (q1, .inl (cB, 16, .inl (sd_again kf kn_z 16))), (q3, .inr (2, [.ref q4])), (q4, .inl (cB, 16, .inl (sd_cp (sd_again kf kn_z 16))))]) (w1 := [(q2, .inr (1, [.int 16, .ref q5, .int (bI true)])), (q5, .inl (cI, 32, .inl (sd_key (sd_cp (sd_again kf kn_z 16))))), (ba, .inl (cB, 16, .inl g)), (oa, .inl (cB, 16, .inl (sd_out o (sd_fw (sd_key (sd_cp (sd_again kf kn_z 16))) 16 (sd_in g)))))]) hP hD [5, 8, 2, 3] [0, 1, 4, 6, 7] rfl rfl (by decide) (by decide) hk1 hFc hP1 hD1
      have hP := hP.sub (ws' := [(h0, .inr (0, [.ref ka, .ref ba, .ref oa])), (ka, .inl (cB, 32, .inl kf)), (ba, .inl (cB, 16, .inl g)), (oa, .inl (cB, 16, .inl (sd_out o (sd_fw (sd_key (sd_cp (sd_again kf kn_z 16))) 16 (sd_in g))))), (q1, .inl (cB, 16, .inl (sd_again kf kn_z 16))), (q2, .inr (1, [.int 16, .ref q5, .int (bI true)])), (q3, .inr (2, [.ref q4])), (q4, .inl (cB, 16, .inl (sd_cp (sd_again kf kn_z 16)))), (q5, .inl (cI, 32, .inl (sd_key (sd_cp (sd_again kf kn_z 16)))))]) [0, 1, 7, 8, 2, 5, 3, 4, 6] rfl
      have hD := hD.sub (ws' := [(h0, .inr (0, [.ref ka, .ref ba, .ref oa])), (ka, .inl (cB, 32, .inl kf)), (ba, .inl (cB, 16, .inl g)), (oa, .inl (cB, 16, .inl (sd_out o (sd_fw (sd_key (sd_cp (sd_again kf kn_z 16))) 16 (sd_in g))))), (q1, .inl (cB, 16, .inl (sd_again kf kn_z 16))), (q2, .inr (1, [.int 16, .ref q5, .int (bI true)])), (q3, .inr (2, [.ref q4])), (q4, .inl (cB, 16, .inl (sd_cp (sd_again kf kn_z 16)))), (q5, .inl (cI, 32, .inl (sd_key (sd_cp (sd_again kf kn_z 16)))))]) [0, 1, 7, 8, 2, 5, 3, 4, 6] (by decide) rfl
      refine lv_pop hx hb dX1_run_82 rfl ?_
      rw [sd_runT] at hP hD
      have hP := hP.sub (ws' := [(h0, .inr (0, [.ref ka, .ref ba, .ref oa])), (ka, .inl (cB, 32, .inl kf)), (ba, .inl (cB, 16, .inl g)), (oa, .inl (cB, 16, .inl (sd_run true kf g o)))]) [0, 1, 2, 3] rfl
      have hD := hD.sub (ws' := [(h0, .inr (0, [.ref ka, .ref ba, .ref oa])), (ka, .inl (cB, 32, .inl kf)), (ba, .inl (cB, 16, .inl g)), (oa, .inl (cB, 16, .inl (sd_run true kf g o)))]) [0, 1, 2, 3] (by decide) rfl
      refine W.widen (k := 5) (n := 68) (Nat.le_of_ble_eq_true rfl) (Nat.le_of_ble_eq_true rfl) ?_
      exact W.vret hx hb hr (fun t ht hW => ⟨⟨(), rfl, trivial, by rw [ht]; exact hP, hD⟩, hS.F ht⟩) hS.2.2 dX1_run_83
    · exact absurd (by decide) c0
set_option maxHeartbeats 4000000 in
set_option maxRecDepth 100000 in
/-- run: one block opened -/
theorem mt_runF (l : Launch) (D : va_G) (cB cI : ClassId) (h0 ka ba oa sz : Nat) (kf g o : Nat → Int32) (z : Int32) : Met l yX1_run (ws_ yX1_run cX1_run 6 none) ({ frames := 5, cells := 5, slots := 68, locals := 128 }) (va_Pc [.ref h0, .int (bI false), .int z] (pz_ D [(h0, .inr (0, [.ref ka, .ref ba, .ref oa])), (ka, .inl (cB, 32, .inl kf)), (ba, .inl (cB, 16, .inl g)), (oa, .inl (cB, 16, .inl o))] (tyBI cB cI) sz)) (va_Qv (fun _ : Unit => True) (fun _ => wx_ D (va_A [(h0, .inr (0, [.ref ka, .ref ba, .ref oa])), (ka, .inl (cB, 32, .inl kf)), (ba, .inl (cB, 16, .inl g)), (oa, .inl (cB, 16, .inl o))] sz) [(h0, .inr (0, [.ref ka, .ref ba, .ref oa])), (ka, .inl (cB, 32, .inl kf)), (ba, .inl (cB, 16, .inl g)), (oa, .inl (cB, 16, .inl (sd_run false kf g o)))]) (va_A [(h0, .inr (0, [.ref ka, .ref ba, .ref oa])), (ka, .inl (cB, 32, .inl kf)), (ba, .inl (cB, 16, .inl g)), (oa, .inl (cB, 16, .inl o))] sz)) 5 68 (va_A [(h0, .inr (0, [.ref ka, .ref ba, .ref oa])), (ka, .inl (cB, 32, .inl kf)), (ba, .inl (cB, 16, .inl g)), (oa, .inl (cB, 16, .inl o))] sz) := by
  refine Met.ofW (cc := cX1_run) (maxL := 6) (ret := none) (by decide) rfl ?_
  intro p e s m args below meth c s₁ B hml hv
  obtain ⟨rfl, ⟨⟨hsz, hP, hK, hD0⟩, hT0⟩, hI⟩ := hv
  have hx := B.exec
  have hb := B.bytes
  have hr := B.returns
  have hts := atoms_spec (ws := (ws_ yX1_run cX1_run 6 none)) B.pre
  have hts : ∀ w ∈ lw_all, w.before _ s = true := fun w h => hts w (List.mem_cons_of_mem _ h)
  have hown : s.vm.findClass RX1 = some m.cls := findClass_of_methodNamed B.named
  have hlocks := B.notSynchronized
  subst hsz
  have hD := hD0.self (sz := s.heap.size)
  generalize hAe : va_A [(h0, .inr (0, [.ref ka, .ref ba, .ref oa])), (ka, .inl (cB, 32, .inl kf)), (ba, .inl (cB, 16, .inl g)), (oa, .inl (cB, 16, .inl o))] s.heap.size = A at hD hT0 ⊢
  have hA : ∀ q : Nat, s.heap.size ≤ q → A q := fun q h => by rw [← hAe]; exact Or.inr h
  have hS : va_S A s.heap s.heap [] := va_S.rf
  have hP : va_P D sCl [(h0, .inr (0, [.ref ka, .ref ba, .ref oa])), (ka, .inl (cB, 32, .inl kf)), (ba, .inl (cB, 16, .inl g)), (oa, .inl (cB, 16, .inl o))] s.heap := hP
  have hT : tb_ A s s.heap := hT0
  have hl := lv_entry ([.ref h0, .int (bI false), .int z]) (n := 6) (Nat.le_of_ble_eq_true rfl)
  rw [lg_entry_eq]
  generalize (lg_sl ([.ref h0, .int (bI false), .int z]) ++ List.replicate (6 - (lg_sl ([.ref h0, .int (bI false), .int z])).length) Slot.unset).toArray = ls at hl ⊢
  have hl : lv_has ls 6 [(0, .ref h0), (1, .int (bI false)), (2, .int z)] := hl
  refine lv_iload_n hx hb dX1_run_0 rfl (lv_at hl 2 rfl) ?_
  refine lv_iconst (v := 3) hx hb dX1_run_1 (by decide) ?_
  refine lv_iand hx hb dX1_run_2 ?_
  refine cs_i (W.runS (As := [.int (z &&& 3)]) (rest := []) ⟨hx, hb, hml, hown, hts⟩ (mt_sz l D _ _ (z &&& 3)) (va_cwS 1 hts (lw_S q35 q36 q14 q37) rfl rfl rfl (by decide +kernel) ⟨Nat.le_of_ble_eq_true rfl, Nat.le_of_ble_eq_true rfl⟩) ⟨pu_blind, pu_at hP hK⟩ rfl rfl hl.1 rfl (lv_room (Nat.le_of_ble_eq_true rfl)) dX1_run_3 ⟨Nat.le_of_ble_eq_true rfl, Nat.le_of_ble_eq_true rfl⟩) ?_
  refine lv_istore_n (lv' := [(3, .int 16), (0, .ref h0), (1, .int (bI false)), (2, .int z)]) hx hb dX1_run_6 rfl hl (by decide) rfl (fun ls hl => ?_)
  refine lv_iload_n hx hb dX1_run_7 rfl (lv_at hl 0 rfl) ?_
  refine va_newa (atype := .byte) (ty := .byte) (a0 := (16, .inl kn_z)) hx hb (hts _ q56) rfl hK hP hD hS hA (fun _ => rfl) (by decide) (by decide) (Nat.le_of_ble_eq_true rfl) (Nat.le_of_ble_eq_true rfl) (Nat.le_of_ble_eq_true rfl) dX1_run_8 (fun q1 cA H hK2 hP hD hS => ?_)
  have hq := ty_same hK2
  rw [hq] at hP hD
  have hP : va_P D sCl [(h0, .inr (0, [.ref ka, .ref ba, .ref oa])), (ka, .inl (cB, 32, .inl kf)), (ba, .inl (cB, 16, .inl g)), (oa, .inl (cB, 16, .inl o)), (q1, .inl (cB, 16, .inl kn_z))] H := hP
  have hD : va_D A [(h0, .inr (0, [.ref ka, .ref ba, .ref oa])), (ka, .inl (cB, 32, .inl kf)), (ba, .inl (cB, 16, .inl g)), (oa, .inl (cB, 16, .inl o)), (q1, .inl (cB, 16, .inl kn_z))] := hD
  refine W.widen (k := 1) (n := 16) (Nat.le_of_ble_eq_true rfl) (Nat.le_of_ble_eq_true rfl) ?_
  refine lv_astore (lv' := [(4, .ref q1), (3, .int 16), (0, .ref h0), (1, .int (bI false)), (2, .int z)]) hx hb dX1_run_10 hl (by decide) rfl (fun ls hl => ?_)
  refine lv_iconst (v := 0) hx hb dX1_run_12 (by decide) ?_
  refine tp_i (y := nI 0) rfl ?_
  refine lv_istore (lv' := [(5, .int (nI 0)), (4, .ref q1), (3, .int 16), (0, .ref h0), (1, .int (bI false)), (2, .int z)]) hx hb dX1_run_13 hl (by decide) rfl (fun ls hl => ?_)
  refine lp_for (fun i H locs ls => va_P D sCl [(h0, .inr (0, [.ref ka, .ref ba, .ref oa])), (ka, .inl (cB, 32, .inl kf)), (ba, .inl (cB, 16, .inl g)), (oa, .inl (cB, 16, .inl o)), (q1, .inl (cB, 16, .inl (sd_again kf kn_z i)))] H ∧ va_D A [(h0, .inr (0, [.ref ka, .ref ba, .ref oa])), (ka, .inl (cB, 32, .inl kf)), (ba, .inl (cB, 16, .inl g)), (oa, .inl (cB, 16, .inl o)), (q1, .inl (cB, 16, .inl (sd_again kf kn_z i)))] ∧ va_S A s.heap H locs ∧ lv_has ls 6 [(5, .int (nI i)), (4, .ref q1), (3, .int 16), (0, .ref h0), (1, .int (bI false)), (2, .int z)]) 16 (fun i H locs ls hi hI ih => ?_) (fun H locs ls hI => ?_) ⟨by rw [sd_again_0]; exact hP, by rw [sd_again_0]; exact hD, hS, lv_sub hl [0, 1, 2, 3, 4, 5] rfl⟩
  · obtain ⟨hP, hD, hS, hl⟩ := hI
    refine lv_iload hx hb dX1_run_15 (lv_at hl 0 rfl) ?_
    refine lv_iload_n hx hb dX1_run_17 rfl (lv_at hl 2 rfl) ?_
    refine lv_icmp_ge (tgt := 39) hx hb dX1_run_18 (by decide) (fun c0 => ?_) (fun c0 => ?_)
    · exact absurd c0 (nI_ge (by omega) (by omega) : ¬ nI 16 ≤ nI i)
    · refine lv_aload hx hb dX1_run_21 (lv_at hl 1 rfl) ?_
      refine lv_iload hx hb dX1_run_23 (lv_at hl 0 rfl) ?_
      refine lv_aload_n hx hb dX1_run_25 rfl (lv_at hl 3 rfl) ?_
      refine va_get (D := D) (ci := 0) (v := .ref ka) (C := RX1) (T := TX1) (N := 3) hx hb hts in_X1 hown hK hP 0 rfl rfl 0 (by decide) (hts _ q293) (fun _ h9 => h9) rfl dX1_run_26 ?_
      refine lv_iload hx hb dX1_run_29 (lv_at hl 0 rfl) ?_
      refine va_bald hx hb hK hP 1 0 rfl rfl (vp_in_nI (show i < 32 by omega) (by decide)) dX1_run_31 ?_
      refine tp_i (y := kf i) (by rw [nI_clamp (by omega)]) ?_
      refine va_bast hx hb hK hP hD hS 4 0 rfl rfl (vp_in_nI hi (by decide)) dX1_run_32 (fun H locs hP hD hS => ?_)
      have hP : va_P D sCl [(h0, .inr (0, [.ref ka, .ref ba, .ref oa])), (ka, .inl (cB, 32, .inl kf)), (ba, .inl (cB, 16, .inl g)), (oa, .inl (cB, 16, .inl o)), (q1, .inl (cB, 16, .inl (sd_again kf kn_z (i + 1))))] H := by rw [← (st_cp kf i hi)]; exact hP
      have hD : va_D A [(h0, .inr (0, [.ref ka, .ref ba, .ref oa])), (ka, .inl (cB, 32, .inl kf)), (ba, .inl (cB, 16, .inl g)), (oa, .inl (cB, 16, .inl o)), (q1, .inl (cB, 16, .inl (sd_again kf kn_z (i + 1))))] := by rw [← (st_cp kf i hi)]; exact hD
      refine lv_iinc (v := nI (i + 1)) (lv' := [(5, .int (nI (i + 1))), (4, .ref q1), (3, .int 16), (0, .ref h0), (1, .int (bI false)), (2, .int z)]) hx hb dX1_run_33 hl (k := 0) rfl (nI_inc i) (by decide) rfl (fun ls hl => ?_)
      refine lv_goto (tgt := 15) hx hb dX1_run_36 (by decide) ?_
      exact ih H locs ls ⟨hP, hD, hS, lv_sub hl [0, 1, 2, 3, 4, 5] rfl⟩
  · obtain ⟨hP, hD, hS, hl⟩ := hI
    refine lv_iload hx hb dX1_run_15 (lv_at hl 0 rfl) ?_
    refine lv_iload_n hx hb dX1_run_17 rfl (lv_at hl 2 rfl) ?_
    refine lv_icmp_ge (tgt := 39) hx hb dX1_run_18 (by decide) (fun c0 => ?_) (fun c0 => ?_)
    · refine va_new (ci := 1) (fs := [.int 0, .null, .int 0]) (C := RX2) (T := TX2) (N := 3) hx hb hts in_X2 tyX2 tyX2_ok hown (hts _ q38) (hts _ q39) (hts _ q15) hK hP hD hS hA rfl (fun j hj => by rcases (show j = 0 ∨ j = 1 ∨ j = 2 by omega) with rfl | rfl | rfl <;> rfl) (Nat.le_of_ble_eq_true rfl) (Nat.le_of_ble_eq_true rfl) dX1_run_39 (fun q2 H hP hD hS => ?_)
      have hP : va_P D sCl [(h0, .inr (0, [.ref ka, .ref ba, .ref oa])), (ka, .inl (cB, 32, .inl kf)), (ba, .inl (cB, 16, .inl g)), (oa, .inl (cB, 16, .inl o)), (q1, .inl (cB, 16, .inl (sd_again kf kn_z 16))), (q2, .inr (1, [.int 0, .null, .int 0]))] H := hP
      have hD : va_D A [(h0, .inr (0, [.ref ka, .ref ba, .ref oa])), (ka, .inl (cB, 32, .inl kf)), (ba, .inl (cB, 16, .inl g)), (oa, .inl (cB, 16, .inl o)), (q1, .inl (cB, 16, .inl (sd_again kf kn_z 16))), (q2, .inr (1, [.int 0, .null, .int 0]))] := hD
      refine W.widen (k := 2) (n := 19) (Nat.le_of_ble_eq_true rfl) (Nat.le_of_ble_eq_true rfl) ?_
      refine lv_dup hx hb dX1_run_42 rfl ?_
      have hPc := hP.sub (ws' := [(q2, .inr (1, [.int 0, .null, .int 0]))]) [5] rfl
      have hDc := hD.sub (ws' := [(q2, .inr (1, [.int 0, .null, .int 0]))]) [5] (by decide) rfl
      have hFc := va_free (wc := [(q2, .inr (1, [.int 0, .null, .int 0]))]) hD hS hA [5] rfl
      refine va_callv (va_runI (As := []) (rest := [.ref q2]) ⟨hx, hb, hml, hown, hts⟩ (mt_se l D cB cI q2 _ (.int 0) .null (.int 0)) (cwI 0 hts (lw_meth q42) rfl rfl rfl (hts _ q15) (hts _ q40) (hts _ q41) rfl (by decide +kernel) ⟨Nat.le_of_ble_eq_true rfl, Nat.le_of_ble_eq_true rfl⟩) ⟨px_blind, px_at hPc hK hDc⟩ rfl rfl hl.1 rfl (lv_room (Nat.le_of_ble_eq_true rfl)) dX1_run_43 ⟨Nat.le_of_ble_eq_true rfl, Nat.le_of_ble_eq_true rfl⟩) hS (fun q _ h => hFc q h) hFc (fun u_ t H locs ht hvm hw hB hz1 hk1 hS => ?_)
      obtain ⟨hP1, hD1⟩ := hB
      rw [ht] at hP1
      obtain ⟨hP, hD⟩ := va_join (wr := [(h0, .inr (0, [.ref ka, .ref ba, .ref oa])), (ka, .inl (cB, 32, .inl kf)), (ba, .inl (cB, 16, .inl g)), (oa, .inl (cB, 16, .inl o)), (q1, .inl (cB, 16, .inl (sd_again kf kn_z 16)))]) (w1 := [(q2, .inr (1, [.int 16, .null, .int 0]))]) hP hD [5] [0, 1, 2, 3, 4] rfl rfl (by decide) (by decide) hk1 hFc hP1 hD1
      have hP := hP.sub (ws' := [(h0, .inr (0, [.ref ka, .ref ba, .ref oa])), (ka, .inl (cB, 32, .inl kf)), (ba, .inl (cB, 16, .inl g)), (oa, .inl (cB, 16, .inl o)), (q1, .inl (cB, 16, .inl (sd_again kf kn_z 16))), (q2, .inr (1, [.int 16, .null, .int 0]))]) [0, 1, 2, 3, 4, 5] rfl
      have hD := hD.sub (ws' := [(h0, .inr (0, [.ref ka, .ref ba, .ref oa])), (ka, .inl (cB, 32, .inl kf)), (ba, .inl (cB, 16, .inl g)), (oa, .inl (cB, 16, .inl o)), (q1, .inl (cB, 16, .inl (sd_again kf kn_z 16))), (q2, .inr (1, [.int 16, .null, .int 0]))]) [0, 1, 2, 3, 4, 5] (by decide) rfl
      refine lv_astore (lv' := [(5, .ref q2), (4, .ref q1), (3, .int 16), (0, .ref h0), (1, .int (bI false)), (2, .int z)]) hx hb dX1_run_46 hl (by decide) rfl (fun ls hl => ?_)
      refine lv_aload hx hb dX1_run_48 (lv_at hl 0 rfl) ?_
      refine lv_iload_n hx hb dX1_run_50 rfl (lv_at hl 4 rfl) ?_
      refine va_new (ci := 2) (fs := [.null]) (C := RX3) (T := TX3) (N := 1) hx hb hts in_X3 tyX3 tyX3_ok hown (hts _ q57) (hts _ q58) (hts _ q16) hK hP hD hS hA rfl (fun j hj => by rcases (show j = 0 by omega) with rfl <;> rfl) (Nat.le_of_ble_eq_true rfl) (Nat.le_of_ble_eq_true rfl) dX1_run_51 (fun q3 H hP hD hS => ?_)
      have hP : va_P D sCl [(h0, .inr (0, [.ref ka, .ref ba, .ref oa])), (ka, .inl (cB, 32, .inl kf)), (ba, .inl (cB, 16, .inl g)), (oa, .inl (cB, 16, .inl o)), (q1, .inl (cB, 16, .inl (sd_again kf kn_z 16))), (q2, .inr (1, [.int 16, .null, .int 0])), (q3, .inr (2, [.null]))] H := hP
      have hD : va_D A [(h0, .inr (0, [.ref ka, .ref ba, .ref oa])), (ka, .inl (cB, 32, .inl kf)), (ba, .inl (cB, 16, .inl g)), (oa, .inl (cB, 16, .inl o)), (q1, .inl (cB, 16, .inl (sd_again kf kn_z 16))), (q2, .inr (1, [.int 16, .null, .int 0])), (q3, .inr (2, [.null]))] := hD
      refine W.widen (k := 3) (n := 20) (Nat.le_of_ble_eq_true rfl) (Nat.le_of_ble_eq_true rfl) ?_
      refine lv_dup hx hb dX1_run_54 rfl ?_
      refine lv_aload hx hb dX1_run_55 (lv_at hl 1 rfl) ?_
      have hPc := hP.sub (ws' := [(q3, .inr (2, [.null])), (q1, .inl (cB, 16, .inl (sd_again kf kn_z 16)))]) [6, 4] rfl
      have hDc := hD.sub (ws' := [(q3, .inr (2, [.null])), (q1, .inl (cB, 16, .inl (sd_again kf kn_z 16)))]) [6, 4] (by decide) rfl
      have hFc := va_free (wc := [(q3, .inr (2, [.null])), (q1, .inl (cB, 16, .inl (sd_again kf kn_z 16)))]) hD hS hA [6, 4] rfl
      refine va_callv (va_runI (As := [.ref q1]) (rest := [.ref q3, .int (bI false), .ref q2]) ⟨hx, hb, hml, hown, hts⟩ (mt_kp l D cB cI q3 q1 _ .null (sd_again kf kn_z 16) (sd_cp_fit kf)) (cwI 1 hts (lw_meth q61) rfl rfl rfl (hts _ q16) (hts _ q59) (hts _ q60) rfl (by decide +kernel) ⟨Nat.le_of_ble_eq_true rfl, Nat.le_of_ble_eq_true rfl⟩) ⟨px_blind, px_at hPc hK hDc⟩ rfl rfl hl.1 rfl (lv_room (Nat.le_of_ble_eq_true rfl)) dX1_run_57 ⟨Nat.le_of_ble_eq_true rfl, Nat.le_of_ble_eq_true rfl⟩) hS (fun q _ h => hFc q h) hFc (fun q4 t H locs ht hvm hw hB hz1 hk1 hS => ?_)
      obtain ⟨hP1, hD1⟩ := hB
      rw [ht] at hP1
      obtain ⟨hP, hD⟩ := va_join (wr := [(h0, .inr (0, [.ref ka, .ref ba, .ref oa])), (ka, .inl (cB, 32, .inl kf)), (ba, .inl (cB, 16, .inl g)), (oa, .inl (cB, 16, .inl o)), (q2, .inr (1, [.int 16, .null, .int 0]))]) (w1 := [(q3, .inr (2, [.ref q4])), (q1, .inl (cB, 16, .inl (sd_again kf kn_z 16))), (q4, .inl (cB, 16, .inl (sd_cp (sd_again kf kn_z 16))))]) hP hD [6, 4] [0, 1, 2, 3, 5] rfl rfl (by decide) (by decide) hk1 hFc hP1 hD1
      have hP := hP.sub (ws' := [(h0, .inr (0, [.ref ka, .ref ba, .ref oa])), (ka, .inl (cB, 32, .inl kf)), (ba, .inl (cB, 16, .inl g)), (oa, .inl (cB, 16, .inl o)), (q1, .inl (cB, 16, .inl (sd_again kf kn_z 16))), (q2, .inr (1, [.int 16, .null, .int 0])), (q3, .inr (2, [.ref q4])), (q4, .inl (cB, 16, .inl (sd_cp (sd_again kf kn_z 16))))]) [0, 1, 2, 3, 6, 4, 5, 7] rfl
      have hD := hD.sub (ws' := [(h0, .inr (0, [.ref ka, .ref ba, .ref oa])), (ka, .inl (cB, 32, .inl kf)), (ba, .inl (cB, 16, .inl g)), (oa, .inl (cB, 16, .inl o)), (q1, .inl (cB, 16, .inl (sd_again kf kn_z 16))), (q2, .inr (1, [.int 16, .null, .int 0])), (q3, .inr (2, [.ref q4])), (q4, .inl (cB, 16, .inl (sd_cp (sd_again kf kn_z 16))))]) [0, 1, 2, 3, 6, 4, 5, 7] (by decide) rfl
      refine W.widen (k := 4) (n := 36) (Nat.le_of_ble_eq_true rfl) (Nat.le_of_ble_eq_true rfl) ?_
      have hPc := hP.sub (ws' := [(q2, .inr (1, [.int 16, .null, .int 0])), (q3, .inr (2, [.ref q4])), (q4, .inl (cB, 16, .inl (sd_cp (sd_again kf kn_z 16))))]) [5, 6, 7] rfl
      have hDc := hD.sub (ws' := [(q2, .inr (1, [.int 16, .null, .int 0])), (q3, .inr (2, [.ref q4])), (q4, .inl (cB, 16, .inl (sd_cp (sd_again kf kn_z 16))))]) [5, 6, 7] (by decide) rfl
      have hFc := va_free (wc := [(q2, .inr (1, [.int 16, .null, .int 0])), (q3, .inr (2, [.ref q4])), (q4, .inl (cB, 16, .inl (sd_cp (sd_again kf kn_z 16))))]) hD hS hA [5, 6, 7] rfl
      have hTc := tb_here hT hS hFc
      refine va_callFv (va_runF (cC := D.1 1) (As := [.int (bI false), .ref q3]) (rest := []) (hK.1 1 _ rfl).2 ⟨hx, hb, hml, hown, hts⟩ (mt_in l D cB cI q2 q4 q3 _ .null (.int 0) false (sd_cp (sd_again kf kn_z 16))) (va_cwF 2 hts (lw_app (lw_in _ [77, 81, 83, 15] (by decide +kernel) (by decide +kernel)) (lw_meth q85)) rfl rfl rfl hI.1 (by decide +kernel) ⟨Nat.le_of_ble_eq_true rfl, Nat.le_of_ble_eq_true rfl⟩) ⟨py_blind, va_recv hK hP (ci := 1) (q0 := 5) rfl rfl, py_at hPc hK hDc hTc⟩ rfl rfl hl.1 rfl (lv_room (Nat.le_of_ble_eq_true rfl)) dX1_run_60 ⟨Nat.le_of_ble_eq_true rfl, Nat.le_of_ble_eq_true rfl⟩) hS (fun q _ h => hFc q h) hFc (fun q5 t H locs ht hvm hw hB hz1 hk1 hS => ?_)
      obtain ⟨hP1, hD1⟩ := hB
      rw [ht] at hP1
      obtain ⟨hP, hD⟩ := va_join (wr := [(h0, .inr (0, [.ref ka, .ref ba, .ref oa])), (ka, .inl (cB, 32, .inl kf)), (ba, .inl (cB, 16, .inl g)), (oa, .inl (cB, 16, .inl o)), (q1, .inl (cB, 16, .inl (sd_again kf kn_z 16)))]) (w1 := [(q2, .inr (1, [.int 16, .ref q5, .int (bI false)])), (q3, .inr (2, [.ref q4])), (q4, .inl (cB, 16, .inl (sd_cp (sd_again kf kn_z 16)))), (q5, .inl (cI, 32, .inl (sd_key (sd_cp (sd_again kf kn_z 16)))))]) hP hD [5, 6, 7] [0, 1, 2, 3, 4] rfl rfl (by decide) (by decide) hk1 hFc hP1 hD1
      have hP := hP.sub (ws' := [(h0, .inr (0, [.ref ka, .ref ba, .ref oa])), (ka, .inl (cB, 32, .inl kf)), (ba, .inl (cB, 16, .inl g)), (oa, .inl (cB, 16, .inl o)), (q1, .inl (cB, 16, .inl (sd_again kf kn_z 16))), (q2, .inr (1, [.int 16, .ref q5, .int (bI false)])), (q3, .inr (2, [.ref q4])), (q4, .inl (cB, 16, .inl (sd_cp (sd_again kf kn_z 16)))), (q5, .inl (cI, 32, .inl (sd_key (sd_cp (sd_again kf kn_z 16)))))]) [0, 1, 2, 3, 4, 5, 6, 7, 8] rfl
      have hD := hD.sub (ws' := [(h0, .inr (0, [.ref ka, .ref ba, .ref oa])), (ka, .inl (cB, 32, .inl kf)), (ba, .inl (cB, 16, .inl g)), (oa, .inl (cB, 16, .inl o)), (q1, .inl (cB, 16, .inl (sd_again kf kn_z 16))), (q2, .inr (1, [.int 16, .ref q5, .int (bI false)])), (q3, .inr (2, [.ref q4])), (q4, .inl (cB, 16, .inl (sd_cp (sd_again kf kn_z 16)))), (q5, .inl (cI, 32, .inl (sd_key (sd_cp (sd_again kf kn_z 16)))))]) [0, 1, 2, 3, 4, 5, 6, 7, 8] (by decide) rfl
      refine W.widen (k := 5) (n := 68) (Nat.le_of_ble_eq_true rfl) (Nat.le_of_ble_eq_true rfl) ?_
      refine lv_aload hx hb dX1_run_65 (lv_at hl 0 rfl) ?_
      refine lv_aload_n hx hb dX1_run_67 rfl (lv_at hl 3 rfl) ?_
      refine va_get (D := D) (ci := 0) (v := .ref ba) (C := RX1) (T := TX1) (N := 3) hx hb hts in_X1 hown hK hP 0 rfl rfl 1 (by decide) (hts _ q294) (fun _ h9 => h9) rfl dX1_run_68 ?_
      refine lv_iconst (v := 0) hx hb dX1_run_71 (by decide) ?_
      refine lv_aload_n hx hb dX1_run_72 rfl (lv_at hl 3 rfl) ?_
      refine va_get (D := D) (ci := 0) (v := .ref oa) (C := RX1) (T := TX1) (N := 3) hx hb hts in_X1 hown hK hP 0 rfl rfl 2 (by decide) (hts _ q295) (fun _ h9 => h9) rfl dX1_run_73 ?_
      refine lv_iconst (v := 0) hx hb dX1_run_76 (by decide) ?_
      have hPc := hP.sub (ws' := [(q2, .inr (1, [.int 16, .ref q5, .int (bI false)])), (q5, .inl (cI, 32, .inl (sd_key (sd_cp (sd_again kf kn_z 16))))), (ba, .inl (cB, 16, .inl g)), (oa, .inl (cB, 16, .inl o))]) [5, 8, 2, 3] rfl
      have hDc := hD.sub (ws' := [(q2, .inr (1, [.int 16, .ref q5, .int (bI false)])), (q5, .inl (cI, 32, .inl (sd_key (sd_cp (sd_again kf kn_z 16))))), (ba, .inl (cB, 16, .inl g)), (oa, .inl (cB, 16, .inl o))]) [5, 8, 2, 3] (by decide) rfl
      have hFc := va_free (wc := [(q2, .inr (1, [.int 16, .ref q5, .int (bI false)])), (q5, .inl (cI, 32, .inl (sd_key (sd_cp (sd_again kf kn_z 16))))), (ba, .inl (cB, 16, .inl g)), (oa, .inl (cB, 16, .inl o))]) hD hS hA [5, 8, 2, 3] rfl
      have hTc := tb_here hT hS hFc
      refine va_callFi (va_runF (cC := D.1 1) (As := [.ref ba, .int 0, .ref oa, .int 0]) (rest := []) (hK.1 1 _ rfl).2 ⟨hx, hb, hml, hown, hts⟩ (mt_pbF l D cB cI q2 q5 ba oa _ (sd_key (sd_cp (sd_again kf kn_z 16))) g o) (va_cwF 4 hts (lw_app (lw_in _ [198, 201, 203, 15] (by decide +kernel) (by decide +kernel)) (lw_meth q205)) rfl rfl rfl hI.2 (by decide +kernel) ⟨Nat.le_of_ble_eq_true rfl, Nat.le_of_ble_eq_true rfl⟩) ⟨py_blind, va_recv hK hP (ci := 1) (q0 := 5) rfl rfl, py_at hPc hK hDc hTc⟩ rfl rfl hl.1 rfl (lv_room (Nat.le_of_ble_eq_true rfl)) dX1_run_77 ⟨Nat.le_of_ble_eq_true rfl, Nat.le_of_ble_eq_true rfl⟩) hS (fun q _ h => hFc q h) hFc (fun r_ u_ t H locs ht hvm hw hB hz1 hk1 hS => ?_)
      obtain ⟨hP1, hD1⟩ := hB
      rw [ht] at hP1
      obtain ⟨hP, hD⟩ := va_join (wr := [(h0, .inr (0, [.ref ka, .ref ba, .ref oa])), (ka, .inl (cB, 32, .inl kf)), (q1, .inl (cB, 16, .inl (sd_again kf kn_z 16))), (q3, .inr (2, [.ref q4])), (q4, .inl (cB, 16, .inl (sd_cp (sd_again kf kn_z 16))))]) (w1 := [(q2, .inr (1, [.int 16, .ref q5, .int (bI false)])), (q5, .inl (cI, 32, .inl (sd_key (sd_cp (sd_again kf kn_z 16))))), (ba, .inl (cB, 16, .inl g)), (oa, .inl (cB, 16, .inl (sd_out o (sd_bw (sd_key (sd_cp (sd_again kf kn_z 16))) 16 (sd_in g)))))]) hP hD [5, 8, 2, 3] [0, 1, 4, 6, 7] rfl rfl (by decide) (by decide) hk1 hFc hP1 hD1
      have hP := hP.sub (ws' := [(h0, .inr (0, [.ref ka, .ref ba, .ref oa])), (ka, .inl (cB, 32, .inl kf)), (ba, .inl (cB, 16, .inl g)), (oa, .inl (cB, 16, .inl (sd_out o (sd_bw (sd_key (sd_cp (sd_again kf kn_z 16))) 16 (sd_in g))))), (q1, .inl (cB, 16, .inl (sd_again kf kn_z 16))), (q2, .inr (1, [.int 16, .ref q5, .int (bI false)])), (q3, .inr (2, [.ref q4])), (q4, .inl (cB, 16, .inl (sd_cp (sd_again kf kn_z 16)))), (q5, .inl (cI, 32, .inl (sd_key (sd_cp (sd_again kf kn_z 16)))))]) [0, 1, 7, 8, 2, 5, 3, 4, 6] rfl
      have hD := hD.sub (ws' := [(h0, .inr (0, [.ref ka, .ref ba, .ref oa])), (ka, .inl (cB, 32, .inl kf)), (ba, .inl (cB, 16, .inl g)), (oa, .inl (cB, 16, .inl (sd_out o (sd_bw (sd_key (sd_cp (sd_again kf kn_z 16))) 16 (sd_in g))))), (q1, .inl (cB, 16, .inl (sd_again kf kn_z 16))), (q2, .inr (1, [.int 16, .ref q5, .int (bI false)])), (q3, .inr (2, [.ref q4])), (q4, .inl (cB, 16, .inl (sd_cp (sd_again kf kn_z 16)))), (q5, .inl (cI, 32, .inl (sd_key (sd_cp (sd_again kf kn_z 16)))))]) [0, 1, 7, 8, 2, 5, 3, 4, 6] (by decide) rfl
      refine lv_pop hx hb dX1_run_82 rfl ?_
      rw [sd_runF] at hP hD
      have hP := hP.sub (ws' := [(h0, .inr (0, [.ref ka, .ref ba, .ref oa])), (ka, .inl (cB, 32, .inl kf)), (ba, .inl (cB, 16, .inl g)), (oa, .inl (cB, 16, .inl (sd_run false kf g o)))]) [0, 1, 2, 3] rfl
      have hD := hD.sub (ws' := [(h0, .inr (0, [.ref ka, .ref ba, .ref oa])), (ka, .inl (cB, 32, .inl kf)), (ba, .inl (cB, 16, .inl g)), (oa, .inl (cB, 16, .inl (sd_run false kf g o)))]) [0, 1, 2, 3] (by decide) rfl
      refine W.widen (k := 5) (n := 68) (Nat.le_of_ble_eq_true rfl) (Nat.le_of_ble_eq_true rfl) ?_
      exact W.vret hx hb hr (fun t ht hW => ⟨⟨(), rfl, trivial, by rw [ht]; exact hP, hD⟩, hS.F ht⟩) hS.2.2 dX1_run_83
    · exact absurd (by decide) c0
set_option maxHeartbeats 4000000 in
set_option maxRecDepth 100000 in
/-- lock -/
theorem mt_lock (l : Launch) (D : va_G) (cB cI : ClassId) (h0 ka ba oa sz : Nat) (kf g o : Nat → Int32) (z : Int32) : Met l yX1_lock (ws_ yX1_lock cX1_lock 2 none) ({ frames := 6, cells := 5, slots := 68, locals := 153 }) (va_Pc [.ref h0, .int z] (pz_ D [(h0, .inr (0, [.ref ka, .ref ba, .ref oa])), (ka, .inl (cB, 32, .inl kf)), (ba, .inl (cB, 16, .inl g)), (oa, .inl (cB, 16, .inl o))] (tyBI cB cI) sz)) (va_Qv (fun _ : Unit => True) (fun _ => wx_ D (va_A [(h0, .inr (0, [.ref ka, .ref ba, .ref oa])), (ka, .inl (cB, 32, .inl kf)), (ba, .inl (cB, 16, .inl g)), (oa, .inl (cB, 16, .inl o))] sz) [(h0, .inr (0, [.ref ka, .ref ba, .ref oa])), (ka, .inl (cB, 32, .inl kf)), (ba, .inl (cB, 16, .inl g)), (oa, .inl (cB, 16, .inl (sd_run true kf g o)))]) (va_A [(h0, .inr (0, [.ref ka, .ref ba, .ref oa])), (ka, .inl (cB, 32, .inl kf)), (ba, .inl (cB, 16, .inl g)), (oa, .inl (cB, 16, .inl o))] sz)) 5 68 (va_A [(h0, .inr (0, [.ref ka, .ref ba, .ref oa])), (ka, .inl (cB, 32, .inl kf)), (ba, .inl (cB, 16, .inl g)), (oa, .inl (cB, 16, .inl o))] sz) := by
  refine Met.ofW (cc := cX1_lock) (maxL := 2) (ret := none) (by decide) rfl ?_
  intro p e s m args below meth c s₁ B hml hv
  obtain ⟨rfl, ⟨⟨hsz, hP, hK, hD0⟩, hT0⟩, hI⟩ := hv
  have hx := B.exec
  have hb := B.bytes
  have hr := B.returns
  have hts := atoms_spec (ws := (ws_ yX1_lock cX1_lock 2 none)) B.pre
  have hts : ∀ w ∈ lw_all, w.before _ s = true := fun w h => hts w (List.mem_cons_of_mem _ h)
  have hown : s.vm.findClass RX1 = some m.cls := findClass_of_methodNamed B.named
  have hlocks := B.notSynchronized
  subst hsz
  have hD := hD0.self (sz := s.heap.size)
  generalize hAe : va_A [(h0, .inr (0, [.ref ka, .ref ba, .ref oa])), (ka, .inl (cB, 32, .inl kf)), (ba, .inl (cB, 16, .inl g)), (oa, .inl (cB, 16, .inl o))] s.heap.size = A at hD hT0 ⊢
  have hA : ∀ q : Nat, s.heap.size ≤ q → A q := fun q h => by rw [← hAe]; exact Or.inr h
  have hS : va_S A s.heap s.heap [] := va_S.rf
  have hP : va_P D sCl [(h0, .inr (0, [.ref ka, .ref ba, .ref oa])), (ka, .inl (cB, 32, .inl kf)), (ba, .inl (cB, 16, .inl g)), (oa, .inl (cB, 16, .inl o))] s.heap := hP
  have hT : tb_ A s s.heap := hT0
  have hl := lv_entry ([.ref h0, .int z]) (n := 2) (Nat.le_of_ble_eq_true rfl)
  rw [lg_entry_eq]
  generalize (lg_sl ([.ref h0, .int z]) ++ List.replicate (2 - (lg_sl ([.ref h0, .int z])).length) Slot.unset).toArray = ls at hl ⊢
  have hl : lv_has ls 2 [(0, .ref h0), (1, .int z)] := hl
  refine lv_aload_n hx hb dX1_lock_0 rfl (lv_at hl 0 rfl) ?_
  refine lv_iconst (v := 1) hx hb dX1_lock_1 (by decide) ?_
  refine tp_i (y := bI true) rfl ?_
  refine lv_iload_n hx hb dX1_lock_2 rfl (lv_at hl 1 rfl) ?_
  have hPc := hP.sub (ws' := [(h0, .inr (0, [.ref ka, .ref ba, .ref oa])), (ka, .inl (cB, 32, .inl kf)), (ba, .inl (cB, 16, .inl g)), (oa, .inl (cB, 16, .inl o))]) [0, 1, 2, 3] rfl
  have hDc := hD.sub (ws' := [(h0, .inr (0, [.ref ka, .ref ba, .ref oa])), (ka, .inl (cB, 32, .inl kf)), (ba, .inl (cB, 16, .inl g)), (oa, .inl (cB, 16, .inl o))]) [0, 1, 2, 3] (by decide) rfl
  have hFc := va_free (wc := [(h0, .inr (0, [.ref ka, .ref ba, .ref oa])), (ka, .inl (cB, 32, .inl kf)), (ba, .inl (cB, 16, .inl g)), (oa, .inl (cB, 16, .inl o))]) hD hS hA [0, 1, 2, 3] rfl
  have hTc := tb_here hT hS hFc
  refine va_callv (va_runV (As := [.int (bI true), .int z]) (rest := []) ⟨hx, hb, hml, hown, hts⟩ (mt_runT l D cB cI h0 ka ba oa _ kf g o z) (cwV 2 hts (lw_V q30 q32 qs0 q14 q34) rfl rfl rfl (by decide +kernel) ⟨Nat.le_of_ble_eq_true rfl, Nat.le_of_ble_eq_true rfl⟩) ⟨pz_blind, va_recv hK hP (ci := 0) (q0 := 0) rfl rfl, pz_at hPc hK hDc hTc hI⟩ rfl rfl hl.1 rfl (lv_room (Nat.le_of_ble_eq_true rfl)) dX1_lock_3 ⟨Nat.le_of_ble_eq_true rfl, Nat.le_of_ble_eq_true rfl⟩) hS (fun q _ h => hFc q h) hFc (fun u_ t H locs ht hvm hw hB hz1 hk1 hS => ?_)
  obtain ⟨hP1, hD1⟩ := hB
  rw [ht] at hP1
  obtain ⟨hP, hD⟩ := va_join (wr := []) (w1 := [(h0, .inr (0, [.ref ka, .ref ba, .ref oa])), (ka, .inl (cB, 32, .inl kf)), (ba, .inl (cB, 16, .inl g)), (oa, .inl (cB, 16, .inl (sd_run true kf g o)))]) hP hD [0, 1, 2, 3] [] rfl rfl (by decide) (by decide) hk1 hFc hP1 hD1
  have hP := hP.sub (ws' := [(h0, .inr (0, [.ref ka, .ref ba, .ref oa])), (ka, .inl (cB, 32, .inl kf)), (ba, .inl (cB, 16, .inl g)), (oa, .inl (cB, 16, .inl (sd_run true kf g o)))]) [0, 1, 2, 3] rfl
  have hD := hD.sub (ws' := [(h0, .inr (0, [.ref ka, .ref ba, .ref oa])), (ka, .inl (cB, 32, .inl kf)), (ba, .inl (cB, 16, .inl g)), (oa, .inl (cB, 16, .inl (sd_run true kf g o)))]) [0, 1, 2, 3] (by decide) rfl
  refine W.widen (k := 5) (n := 68) (Nat.le_of_ble_eq_true rfl) (Nat.le_of_ble_eq_true rfl) ?_
  exact W.vret hx hb hr (fun t ht hW => ⟨⟨(), rfl, trivial, by rw [ht]; exact hP, hD⟩, hS.F ht⟩) hS.2.2 dX1_lock_6
set_option maxHeartbeats 4000000 in
set_option maxRecDepth 100000 in
/-- open -/
theorem mt_open (l : Launch) (D : va_G) (cB cI : ClassId) (h0 ka ba oa sz : Nat) (kf g o : Nat → Int32) (z : Int32) : Met l yX1_open (ws_ yX1_open cX1_open 2 none) ({ frames := 6, cells := 5, slots := 68, locals := 153 }) (va_Pc [.ref h0, .int z] (pz_ D [(h0, .inr (0, [.ref ka, .ref ba, .ref oa])), (ka, .inl (cB, 32, .inl kf)), (ba, .inl (cB, 16, .inl g)), (oa, .inl (cB, 16, .inl o))] (tyBI cB cI) sz)) (va_Qv (fun _ : Unit => True) (fun _ => wx_ D (va_A [(h0, .inr (0, [.ref ka, .ref ba, .ref oa])), (ka, .inl (cB, 32, .inl kf)), (ba, .inl (cB, 16, .inl g)), (oa, .inl (cB, 16, .inl o))] sz) [(h0, .inr (0, [.ref ka, .ref ba, .ref oa])), (ka, .inl (cB, 32, .inl kf)), (ba, .inl (cB, 16, .inl g)), (oa, .inl (cB, 16, .inl (sd_run false kf g o)))]) (va_A [(h0, .inr (0, [.ref ka, .ref ba, .ref oa])), (ka, .inl (cB, 32, .inl kf)), (ba, .inl (cB, 16, .inl g)), (oa, .inl (cB, 16, .inl o))] sz)) 5 68 (va_A [(h0, .inr (0, [.ref ka, .ref ba, .ref oa])), (ka, .inl (cB, 32, .inl kf)), (ba, .inl (cB, 16, .inl g)), (oa, .inl (cB, 16, .inl o))] sz) := by
  refine Met.ofW (cc := cX1_open) (maxL := 2) (ret := none) (by decide) rfl ?_
  intro p e s m args below meth c s₁ B hml hv
  obtain ⟨rfl, ⟨⟨hsz, hP, hK, hD0⟩, hT0⟩, hI⟩ := hv
  have hx := B.exec
  have hb := B.bytes
  have hr := B.returns
  have hts := atoms_spec (ws := (ws_ yX1_open cX1_open 2 none)) B.pre
  have hts : ∀ w ∈ lw_all, w.before _ s = true := fun w h => hts w (List.mem_cons_of_mem _ h)
  have hown : s.vm.findClass RX1 = some m.cls := findClass_of_methodNamed B.named
  have hlocks := B.notSynchronized
  subst hsz
  have hD := hD0.self (sz := s.heap.size)
  generalize hAe : va_A [(h0, .inr (0, [.ref ka, .ref ba, .ref oa])), (ka, .inl (cB, 32, .inl kf)), (ba, .inl (cB, 16, .inl g)), (oa, .inl (cB, 16, .inl o))] s.heap.size = A at hD hT0 ⊢
  have hA : ∀ q : Nat, s.heap.size ≤ q → A q := fun q h => by rw [← hAe]; exact Or.inr h
  have hS : va_S A s.heap s.heap [] := va_S.rf
  have hP : va_P D sCl [(h0, .inr (0, [.ref ka, .ref ba, .ref oa])), (ka, .inl (cB, 32, .inl kf)), (ba, .inl (cB, 16, .inl g)), (oa, .inl (cB, 16, .inl o))] s.heap := hP
  have hT : tb_ A s s.heap := hT0
  have hl := lv_entry ([.ref h0, .int z]) (n := 2) (Nat.le_of_ble_eq_true rfl)
  rw [lg_entry_eq]
  generalize (lg_sl ([.ref h0, .int z]) ++ List.replicate (2 - (lg_sl ([.ref h0, .int z])).length) Slot.unset).toArray = ls at hl ⊢
  have hl : lv_has ls 2 [(0, .ref h0), (1, .int z)] := hl
  refine lv_aload_n hx hb dX1_open_0 rfl (lv_at hl 0 rfl) ?_
  refine lv_iconst (v := 0) hx hb dX1_open_1 (by decide) ?_
  refine tp_i (y := bI false) rfl ?_
  refine lv_iload_n hx hb dX1_open_2 rfl (lv_at hl 1 rfl) ?_
  have hPc := hP.sub (ws' := [(h0, .inr (0, [.ref ka, .ref ba, .ref oa])), (ka, .inl (cB, 32, .inl kf)), (ba, .inl (cB, 16, .inl g)), (oa, .inl (cB, 16, .inl o))]) [0, 1, 2, 3] rfl
  have hDc := hD.sub (ws' := [(h0, .inr (0, [.ref ka, .ref ba, .ref oa])), (ka, .inl (cB, 32, .inl kf)), (ba, .inl (cB, 16, .inl g)), (oa, .inl (cB, 16, .inl o))]) [0, 1, 2, 3] (by decide) rfl
  have hFc := va_free (wc := [(h0, .inr (0, [.ref ka, .ref ba, .ref oa])), (ka, .inl (cB, 32, .inl kf)), (ba, .inl (cB, 16, .inl g)), (oa, .inl (cB, 16, .inl o))]) hD hS hA [0, 1, 2, 3] rfl
  have hTc := tb_here hT hS hFc
  refine va_callv (va_runV (As := [.int (bI false), .int z]) (rest := []) ⟨hx, hb, hml, hown, hts⟩ (mt_runF l D cB cI h0 ka ba oa _ kf g o z) (cwV 2 hts (lw_V q30 q32 qs0 q14 q34) rfl rfl rfl (by decide +kernel) ⟨Nat.le_of_ble_eq_true rfl, Nat.le_of_ble_eq_true rfl⟩) ⟨pz_blind, va_recv hK hP (ci := 0) (q0 := 0) rfl rfl, pz_at hPc hK hDc hTc hI⟩ rfl rfl hl.1 rfl (lv_room (Nat.le_of_ble_eq_true rfl)) dX1_open_3 ⟨Nat.le_of_ble_eq_true rfl, Nat.le_of_ble_eq_true rfl⟩) hS (fun q _ h => hFc q h) hFc (fun u_ t H locs ht hvm hw hB hz1 hk1 hS => ?_)
  obtain ⟨hP1, hD1⟩ := hB
  rw [ht] at hP1
  obtain ⟨hP, hD⟩ := va_join (wr := []) (w1 := [(h0, .inr (0, [.ref ka, .ref ba, .ref oa])), (ka, .inl (cB, 32, .inl kf)), (ba, .inl (cB, 16, .inl g)), (oa, .inl (cB, 16, .inl (sd_run false kf g o)))]) hP hD [0, 1, 2, 3] [] rfl rfl (by decide) (by decide) hk1 hFc hP1 hD1
  have hP := hP.sub (ws' := [(h0, .inr (0, [.ref ka, .ref ba, .ref oa])), (ka, .inl (cB, 32, .inl kf)), (ba, .inl (cB, 16, .inl g)), (oa, .inl (cB, 16, .inl (sd_run false kf g o)))]) [0, 1, 2, 3] rfl
  have hD := hD.sub (ws' := [(h0, .inr (0, [.ref ka, .ref ba, .ref oa])), (ka, .inl (cB, 32, .inl kf)), (ba, .inl (cB, 16, .inl g)), (oa, .inl (cB, 16, .inl (sd_run false kf g o)))]) [0, 1, 2, 3] (by decide) rfl
  refine W.widen (k := 5) (n := 68) (Nat.le_of_ble_eq_true rfl) (Nat.le_of_ble_eq_true rfl) ?_
  exact W.vret hx hb hr (fun t ht hW => ⟨⟨(), rfl, trivial, by rw [ht]; exact hP, hD⟩, hS.F ht⟩) hS.2.2 dX1_open_6
end
section
/-! SeedDeskLaw: cell, with, same, known (printed by w_law.py) -/
/-- the script's k-th int, nought behind its end -/
def cl_ (L : Nat) (xs : Nat → Int32) (k : Nat) : Int32 := if k < L then xs k else 0
def pc_ (b L : Nat) (xs : Nat → Int32) : State → Prop := fun U => va_X b L xs U U.heap
theorem pc_blind {av : List Value} {b L : Nat} {xs : Nat → Int32} : FrameBlind (va_Pc av (pc_ b L xs)) := fun a U g mk q => ⟨q.1, va_X.moved (u := U) (U := U.calling g mk a) (Vm.Alike.refl U.vm) q.2⟩
theorem pc_at {av : List Value} {b L : Nat} {xs : Nat → Int32} {s : State} {H : Heap} (hX : va_X b L xs s H) : ∀ U : State, U.heap = H → s.WarmedH U.vm → va_Pc av (pc_ b L xs) av.toArray U := fun U hU hW => ⟨rfl, by
  show va_X b L xs U U.heap
  rw [hU]
  exact va_X.moved hW.alike hX⟩
def ps_ (D : va_G) (ws : va_W) (tys : List (ClassId × FieldType)) (b L : Nat) (xs : Nat → Int32) : State → Prop := fun U => pu_ D ws tys U ∧ pc_ b L xs U
theorem ps_blind {av : List Value} {D : va_G} {ws : va_W} {tys : List (ClassId × FieldType)} {b L : Nat} {xs : Nat → Int32} : FrameBlind (va_Pc av (ps_ D ws tys b L xs)) := fun a U g mk q => ⟨q.1, (pu_blind (av := av) a U g mk ⟨q.1, q.2.1⟩).2, (pc_blind (av := av) a U g mk ⟨q.1, q.2.2⟩).2⟩
theorem ps_at {av : List Value} {D : va_G} {ws : va_W} {tys : List (ClassId × FieldType)} {b L : Nat} {xs : Nat → Int32} {s : State} {H : Heap} (hP : va_P D sCl ws H) (hK : va_K D sCl tys s) (hX : va_X b L xs s H) : ∀ U : State, U.heap = H → s.WarmedH U.vm → va_Pc av (ps_ D ws tys b L xs) av.toArray U :=
  fun U hU hW => ⟨rfl, (pu_at (av := av) hP hK U hU hW).2, (pc_at (av := av) hX U hU hW).2⟩
def pw_ (D : va_G) (ws : va_W) (tys : List (ClassId × FieldType)) (sz b L : Nat) (xs : Nat → Int32) : State → Prop := fun U => px_ D ws tys sz U ∧ pc_ b L xs U
theorem pw_blind {av : List Value} {D : va_G} {ws : va_W} {tys : List (ClassId × FieldType)} {sz b L : Nat} {xs : Nat → Int32} : FrameBlind (va_Pc av (pw_ D ws tys sz b L xs)) := fun a U g mk q => ⟨q.1, (px_blind (av := av) a U g mk ⟨q.1, q.2.1⟩).2, (pc_blind (av := av) a U g mk ⟨q.1, q.2.2⟩).2⟩
theorem pw_at {av : List Value} {D : va_G} {ws : va_W} {tys : List (ClassId × FieldType)} {b L : Nat} {xs : Nat → Int32} {s : State} {H : Heap} {A : Nat → Prop} (hP : va_P D sCl ws H) (hK : va_K D sCl tys s) (hD : va_D A ws) (hX : va_X b L xs s H) : ∀ U : State, U.heap = H → s.WarmedH U.vm → va_Pc av (pw_ D ws tys H.size b L xs) av.toArray U :=
  fun U hU hW => ⟨rfl, (px_at (av := av) hP hK hD U hU hW).2, (pc_at (av := av) hX U hU hW).2⟩
theorem va_X_lt {b L : Nat} {xs : Nat → Int32} {s : State} {H : Heap} (h : va_X b L xs s H) : b < H.size := by
  obtain ⟨scr, h1, -⟩ := h
  exact (Array.getElem?_eq_some_iff.mp h1).1
set_option maxHeartbeats 4000000 in
set_option maxRecDepth 100000 in
/-- cell(s, k) -/
theorem mt_cell (l : Launch) (b L k : Nat) (xs : Nat → Int32) (hL : L < 2 ^ 31) (hk : k < 2 ^ 31) : Met l yX0_cell (ws_ yX0_cell cX0_cell 2 (some .int)) ({ frames := 0, cells := 0, slots := 0, locals := 0 }) (va_Pc [.ref b, .int (nI k)] (pc_ b L xs)) (vp_Si (fun r => r = cl_ L xs k)) 0 0 (fun _ => False) := by
  refine Met.ofW (cc := cX0_cell) (maxL := 2) (ret := (some .int)) (by decide) rfl ?_
  intro p e s m args below meth c s₁ B hml hv
  obtain ⟨rfl, hX⟩ := hv
  have hx := B.exec
  have hb := B.bytes
  have hr := B.returns
  have hts := atoms_spec (ws := (ws_ yX0_cell cX0_cell 2 (some .int))) B.pre
  have hts : ∀ w ∈ lw_all, w.before _ s = true := fun w h => hts w (List.mem_cons_of_mem _ h)
  have hown : s.vm.findClass RX0 = some m.cls := findClass_of_methodNamed B.named
  have hlocks := B.notSynchronized
  have hS : va_S nn_ s.heap s.heap [] := va_S.rf
  have hl := lv_entry ([.ref b, .int (nI k)]) (n := 2) (Nat.le_of_ble_eq_true rfl)
  rw [lg_entry_eq]
  generalize (lg_sl ([.ref b, .int (nI k)]) ++ List.replicate (2 - (lg_sl ([.ref b, .int (nI k)])).length) Slot.unset).toArray = ls at hl ⊢
  have hl : lv_has ls 2 [(0, .ref b), (1, .int (nI k))] := hl
  have hbl := va_X_lt hX
  have hbA : ¬ nn_ b := fun h => h
  refine lv_iload_n hx hb dX0_cell_0 rfl (lv_at hl 1 rfl) ?_
  refine lv_aload_n hx hb dX0_cell_1 rfl (lv_at hl 0 rfl) ?_
  refine va_slen hx hb hX hbl hbA hS dX0_cell_2 ?_
  refine lv_icmp_ge (tgt := 12) hx hb dX0_cell_3 (by decide) (fun c0 => ?_) (fun c0 => ?_)
  · refine lv_iconst (v := 0) hx hb dX0_cell_12 (by decide) ?_
    exact W.iret (v := 0) hx hb hr (fun t ht hW => ⟨_, rfl, (by unfold cl_; rw [if_neg (fun h => absurd c0 (nI_ge h hL))]), ht⟩) (fun q hq => by cases hq) dX0_cell_13
  · have hlt : k < L := by
      rcases Nat.lt_or_ge k L with h | h
      · exact h
      · exact absurd (nI_le h hk) c0
    refine lv_aload_n hx hb dX0_cell_6 rfl (lv_at hl 0 rfl) ?_
    refine lv_iload_n hx hb dX0_cell_7 rfl (lv_at hl 1 rfl) ?_
    refine va_sld hx hb hX hbl hbA hS (vp_in_nI hlt hL) dX0_cell_8 ?_
    refine tp_i (y := cl_ L xs k) (by unfold cl_; rw [if_pos hlt, nI_clamp hk]) ?_
    refine lv_goto (tgt := 13) hx hb dX0_cell_9 (by decide) ?_
    exact W.iret (v := cl_ L xs k) hx hb hr (fun t ht hW => ⟨_, rfl, rfl, ht⟩) (fun q hq => by cases hq) dX0_cell_13
/-- the desk that with(s) makes: its key, its block -/
def wi_k (L : Nat) (xs : Nat → Int32) : Nat → Int32 := sd_4w (sd_4w kn_z 0 (cl_ L xs 0) (cl_ L xs 1) (cl_ L xs 2) (cl_ L xs 3)) 16 (cl_ L xs 4) (cl_ L xs 5) (cl_ L xs 6) (cl_ L xs 7)
def wi_b (L : Nat) (xs : Nat → Int32) : Nat → Int32 := sd_4w kn_z 0 (cl_ L xs 8) (cl_ L xs 9) (cl_ L xs 10) (cl_ L xs 11)
set_option maxHeartbeats 4000000 in
set_option maxRecDepth 100000 in
/-- with(s): a desk with the script in it -/
theorem mt_with (l : Launch) (D : va_G) (cB cI : ClassId) (b L sz : Nat) (xs : Nat → Int32) (hL : L < 2 ^ 31) : Met l yX0_with (ws_ yX0_with cX0_with 2 (some (.object "SeedDesk"))) ({ frames := 2, cells := 4, slots := 67, locals := 48 }) (va_Pc [.ref b] (pw_ D [] (tyBI cB cI) sz b L xs)) (va_Qr (fun _ : Nat × Nat × Nat => True) (fun u a => wx_ D (va_A [] sz) [(a, .inr (0, [.ref u.1, .ref u.2.1, .ref u.2.2])), (u.1, .inl (cB, 32, .inl (wi_k L xs))), (u.2.1, .inl (cB, 16, .inl (wi_b L xs))), (u.2.2, .inl (cB, 16, .inl kn_z))]) (va_A [] sz)) 4 67 (va_A [] sz) := by
  refine Met.ofW (cc := cX0_with) (maxL := 2) (ret := (some (.object "SeedDesk"))) (by decide) rfl ?_
  intro p e s m args below meth c s₁ B hml hv
  obtain ⟨rfl, ⟨hsz, hP, hK, hD0⟩, hX⟩ := hv
  have hx := B.exec
  have hb := B.bytes
  have hr := B.returns
  have hts := atoms_spec (ws := (ws_ yX0_with cX0_with 2 (some (.object "SeedDesk")))) B.pre
  have hts : ∀ w ∈ lw_all, w.before _ s = true := fun w h => hts w (List.mem_cons_of_mem _ h)
  have hown : s.vm.findClass RX0 = some m.cls := findClass_of_methodNamed B.named
  have hlocks := B.notSynchronized
  subst hsz
  have hD := hD0.self (sz := s.heap.size)
  generalize hAe : va_A [] s.heap.size = A at hD ⊢
  have hA : ∀ q : Nat, s.heap.size ≤ q → A q := fun q h => by rw [← hAe]; exact Or.inr h
  have hS : va_S A s.heap s.heap [] := va_S.rf
  have hP : va_P D sCl [] s.heap := hP
  have hl := lv_entry ([.ref b]) (n := 2) (Nat.le_of_ble_eq_true rfl)
  rw [lg_entry_eq]
  generalize (lg_sl ([.ref b]) ++ List.replicate (2 - (lg_sl ([.ref b])).length) Slot.unset).toArray = ls at hl ⊢
  have hl : lv_has ls 2 [(0, .ref b)] := hl
  have hbl : b < s.heap.size := va_X_lt hX
  have hbA : ¬ A b := by
    rw [← hAe]
    intro h
    rcases h with ⟨k, e, h⟩ | h
    · cases h
    · omega
  refine va_new (ci := 0) (fs := [.null, .null, .null]) (C := RX1) (T := TX1) (N := 3) hx hb hts in_X1 tyX1 tyX1_ok hown (hts _ q288) (hts _ q33) (hts _ q14) hK hP hD hS hA rfl (fun j hj => by rcases (show j = 0 ∨ j = 1 ∨ j = 2 by omega) with rfl | rfl | rfl <;> rfl) (Nat.le_of_ble_eq_true rfl) (Nat.le_of_ble_eq_true rfl) dX0_with_0 (fun q1 H hP hD hS => ?_)
  have hP : va_P D sCl [(q1, .inr (0, [.null, .null, .null]))] H := hP
  have hD : va_D A [(q1, .inr (0, [.null, .null, .null]))] := hD
  refine W.widen (k := 1) (n := 3) (Nat.le_of_ble_eq_true rfl) (Nat.le_of_ble_eq_true rfl) ?_
  refine lv_dup hx hb dX0_with_3 rfl ?_
  have hPc := hP.sub (ws' := [(q1, .inr (0, [.null, .null, .null]))]) [0] rfl
  have hDc := hD.sub (ws' := [(q1, .inr (0, [.null, .null, .null]))]) [0] (by decide) rfl
  have hFc := va_free (wc := [(q1, .inr (0, [.null, .null, .null]))]) hD hS hA [0] rfl
  refine va_callv (va_runI (As := []) (rest := [.ref q1]) ⟨hx, hb, hml, hown, hts⟩ (mt_sd l D cB cI q1 _ .null .null .null) (cwI 0 hts (lw_meth q291) rfl rfl rfl (hts _ q14) (hts _ q289) (hts _ q290) rfl (by decide +kernel) ⟨Nat.le_of_ble_eq_true rfl, Nat.le_of_ble_eq_true rfl⟩) ⟨px_blind, px_at hPc hK hDc⟩ rfl rfl hl.1 rfl (lv_room (Nat.le_of_ble_eq_true rfl)) dX0_with_4 ⟨Nat.le_of_ble_eq_true rfl, Nat.le_of_ble_eq_true rfl⟩) hS (fun q _ h => hFc q h) hFc (fun uu t H locs ht hvm hw hB hz1 hk1 hS => ?_)
  obtain ⟨dk, db, do_⟩ := uu
  obtain ⟨hP1, hD1⟩ := hB
  rw [ht] at hP1
  obtain ⟨hP, hD⟩ := va_join (wr := []) (w1 := [(q1, .inr (0, [.ref dk, .ref db, .ref do_])), (dk, .inl (cB, 32, .inl kn_z)), (db, .inl (cB, 16, .inl kn_z)), (do_, .inl (cB, 16, .inl kn_z))]) hP hD [0] [] rfl rfl (by decide) (by decide) hk1 hFc hP1 hD1
  have hP := hP.sub (ws' := [(q1, .inr (0, [.ref dk, .ref db, .ref do_])), (dk, .inl (cB, 32, .inl kn_z)), (db, .inl (cB, 16, .inl kn_z)), (do_, .inl (cB, 16, .inl kn_z))]) [0, 1, 2, 3] rfl
  have hD := hD.sub (ws' := [(q1, .inr (0, [.ref dk, .ref db, .ref do_])), (dk, .inl (cB, 32, .inl kn_z)), (db, .inl (cB, 16, .inl kn_z)), (do_, .inl (cB, 16, .inl kn_z))]) [0, 1, 2, 3] (by decide) rfl
  refine W.widen (k := 4) (n := 67) (Nat.le_of_ble_eq_true rfl) (Nat.le_of_ble_eq_true rfl) ?_
  refine lv_astore_n (lv' := [(1, .ref q1), (0, .ref b)]) hx hb dX0_with_7 rfl hl (by decide) rfl (fun ls hl => ?_)
  refine lv_aload_n hx hb dX0_with_8 rfl (lv_at hl 0 rfl) ?_
  refine lv_iconst (v := 0) hx hb dX0_with_9 (by decide) ?_
  refine tp_i (y := nI 0) rfl ?_
  refine lv_aload_n hx hb dX0_with_10 rfl (lv_at hl 1 rfl) ?_
  refine lv_iconst (v := 0) hx hb dX0_with_11 (by decide) ?_
  refine tp_i (y := nI 0) rfl ?_
  refine cs_i (W.runS (As := [.ref b, .int (nI 0)]) (rest := [.int (nI 0), .ref q1]) ⟨hx, hb, hml, hown, hts⟩ (mt_cell l b L 0 xs hL (by decide)) (va_cwS 2 hts (lw_S q303 q304 q13 q305) rfl rfl rfl (by decide +kernel) ⟨Nat.le_of_ble_eq_true rfl, Nat.le_of_ble_eq_true rfl⟩) ⟨pc_blind, pc_at (va_X.kept hX (hS.2.1 b hbl hbA))⟩ rfl rfl hl.1 rfl (lv_room (Nat.le_of_ble_eq_true rfl)) dX0_with_12 ⟨Nat.le_of_ble_eq_true rfl, Nat.le_of_ble_eq_true rfl⟩) ?_
  refine lv_aload_n hx hb dX0_with_15 rfl (lv_at hl 1 rfl) ?_
  refine lv_iconst (v := 1) hx hb dX0_with_16 (by decide) ?_
  refine tp_i (y := nI 1) rfl ?_
  refine cs_i (W.runS (As := [.ref b, .int (nI 1)]) (rest := [.int (cl_ L xs 0), .int (nI 0), .ref q1]) ⟨hx, hb, hml, hown, hts⟩ (mt_cell l b L 1 xs hL (by decide)) (va_cwS 2 hts (lw_S q303 q304 q13 q305) rfl rfl rfl (by decide +kernel) ⟨Nat.le_of_ble_eq_true rfl, Nat.le_of_ble_eq_true rfl⟩) ⟨pc_blind, pc_at (va_X.kept hX (hS.2.1 b hbl hbA))⟩ rfl rfl hl.1 rfl (lv_room (Nat.le_of_ble_eq_true rfl)) dX0_with_17 ⟨Nat.le_of_ble_eq_true rfl, Nat.le_of_ble_eq_true rfl⟩) ?_
  refine lv_aload_n hx hb dX0_with_20 rfl (lv_at hl 1 rfl) ?_
  refine lv_iconst (v := 2) hx hb dX0_with_21 (by decide) ?_
  refine tp_i (y := nI 2) rfl ?_
  refine cs_i (W.runS (As := [.ref b, .int (nI 2)]) (rest := [.int (cl_ L xs 1), .int (cl_ L xs 0), .int (nI 0), .ref q1]) ⟨hx, hb, hml, hown, hts⟩ (mt_cell l b L 2 xs hL (by decide)) (va_cwS 2 hts (lw_S q303 q304 q13 q305) rfl rfl rfl (by decide +kernel) ⟨Nat.le_of_ble_eq_true rfl, Nat.le_of_ble_eq_true rfl⟩) ⟨pc_blind, pc_at (va_X.kept hX (hS.2.1 b hbl hbA))⟩ rfl rfl hl.1 rfl (lv_room (Nat.le_of_ble_eq_true rfl)) dX0_with_22 ⟨Nat.le_of_ble_eq_true rfl, Nat.le_of_ble_eq_true rfl⟩) ?_
  refine lv_aload_n hx hb dX0_with_25 rfl (lv_at hl 1 rfl) ?_
  refine lv_iconst (v := 3) hx hb dX0_with_26 (by decide) ?_
  refine tp_i (y := nI 3) rfl ?_
  refine cs_i (W.runS (As := [.ref b, .int (nI 3)]) (rest := [.int (cl_ L xs 2), .int (cl_ L xs 1), .int (cl_ L xs 0), .int (nI 0), .ref q1]) ⟨hx, hb, hml, hown, hts⟩ (mt_cell l b L 3 xs hL (by decide)) (va_cwS 2 hts (lw_S q303 q304 q13 q305) rfl rfl rfl (by decide +kernel) ⟨Nat.le_of_ble_eq_true rfl, Nat.le_of_ble_eq_true rfl⟩) ⟨pc_blind, pc_at (va_X.kept hX (hS.2.1 b hbl hbA))⟩ rfl rfl hl.1 rfl (lv_room (Nat.le_of_ble_eq_true rfl)) dX0_with_27 ⟨Nat.le_of_ble_eq_true rfl, Nat.le_of_ble_eq_true rfl⟩) ?_
  have hPc := hP.sub (ws' := [(q1, .inr (0, [.ref dk, .ref db, .ref do_])), (dk, .inl (cB, 32, .inl kn_z))]) [0, 1] rfl
  have hDc := hD.sub (ws' := [(q1, .inr (0, [.ref dk, .ref db, .ref do_])), (dk, .inl (cB, 32, .inl kn_z))]) [0, 1] (by decide) rfl
  have hFc := va_free (wc := [(q1, .inr (0, [.ref dk, .ref db, .ref do_])), (dk, .inl (cB, 32, .inl kn_z))]) hD hS hA [0, 1] rfl
  refine va_callv (va_runV (As := [.int (nI 0), .int (cl_ L xs 0), .int (cl_ L xs 1), .int (cl_ L xs 2), .int (cl_ L xs 3)]) (rest := []) ⟨hx, hb, hml, hown, hts⟩ (mt_key l D cB cI q1 dk db do_ _ 0 kn_z (cl_ L xs 0) (cl_ L xs 1) (cl_ L xs 2) (cl_ L xs 3) (by decide)) (cwV 5 hts (lw_V q306 q307 q308 q14 q309) rfl rfl rfl (by decide +kernel) ⟨Nat.le_of_ble_eq_true rfl, Nat.le_of_ble_eq_true rfl⟩) ⟨px_blind, va_recv hK hP (ci := 0) (q0 := 0) rfl rfl, px_at hPc hK hDc⟩ rfl rfl hl.1 rfl (lv_room (Nat.le_of_ble_eq_true rfl)) dX0_with_30 ⟨Nat.le_of_ble_eq_true rfl, Nat.le_of_ble_eq_true rfl⟩) hS (fun q _ h => hFc q h) hFc (fun u_ t H locs ht hvm hw hB hz1 hk1 hS => ?_)
  obtain ⟨hP1, hD1⟩ := hB
  rw [ht] at hP1
  obtain ⟨hP, hD⟩ := va_join (wr := [(db, .inl (cB, 16, .inl kn_z)), (do_, .inl (cB, 16, .inl kn_z))]) (w1 := [(q1, .inr (0, [.ref dk, .ref db, .ref do_])), (dk, .inl (cB, 32, .inl (sd_4w kn_z 0 (cl_ L xs 0) (cl_ L xs 1) (cl_ L xs 2) (cl_ L xs 3))))]) hP hD [0, 1] [2, 3] rfl rfl (by decide) (by decide) hk1 hFc hP1 hD1
  have hP := hP.sub (ws' := [(q1, .inr (0, [.ref dk, .ref db, .ref do_])), (dk, .inl (cB, 32, .inl (sd_4w kn_z 0 (cl_ L xs 0) (cl_ L xs 1) (cl_ L xs 2) (cl_ L xs 3)))), (db, .inl (cB, 16, .inl kn_z)), (do_, .inl (cB, 16, .inl kn_z))]) [2, 3, 0, 1] rfl
  have hD := hD.sub (ws' := [(q1, .inr (0, [.ref dk, .ref db, .ref do_])), (dk, .inl (cB, 32, .inl (sd_4w kn_z 0 (cl_ L xs 0) (cl_ L xs 1) (cl_ L xs 2) (cl_ L xs 3)))), (db, .inl (cB, 16, .inl kn_z)), (do_, .inl (cB, 16, .inl kn_z))]) [2, 3, 0, 1] (by decide) rfl
  refine lv_aload_n hx hb dX0_with_33 rfl (lv_at hl 0 rfl) ?_
  refine lv_iconst (v := 1) hx hb dX0_with_34 (by decide) ?_
  refine tp_i (y := nI 1) rfl ?_
  refine lv_aload_n hx hb dX0_with_35 rfl (lv_at hl 1 rfl) ?_
  refine lv_iconst (v := 4) hx hb dX0_with_36 (by decide) ?_
  refine tp_i (y := nI 4) rfl ?_
  refine cs_i (W.runS (As := [.ref b, .int (nI 4)]) (rest := [.int (nI 1), .ref q1]) ⟨hx, hb, hml, hown, hts⟩ (mt_cell l b L 4 xs hL (by decide)) (va_cwS 2 hts (lw_S q303 q304 q13 q305) rfl rfl rfl (by decide +kernel) ⟨Nat.le_of_ble_eq_true rfl, Nat.le_of_ble_eq_true rfl⟩) ⟨pc_blind, pc_at (va_X.kept hX (hS.2.1 b hbl hbA))⟩ rfl rfl hl.1 rfl (lv_room (Nat.le_of_ble_eq_true rfl)) dX0_with_37 ⟨Nat.le_of_ble_eq_true rfl, Nat.le_of_ble_eq_true rfl⟩) ?_
  refine lv_aload_n hx hb dX0_with_40 rfl (lv_at hl 1 rfl) ?_
  refine lv_iconst (v := 5) hx hb dX0_with_41 (by decide) ?_
  refine tp_i (y := nI 5) rfl ?_
  refine cs_i (W.runS (As := [.ref b, .int (nI 5)]) (rest := [.int (cl_ L xs 4), .int (nI 1), .ref q1]) ⟨hx, hb, hml, hown, hts⟩ (mt_cell l b L 5 xs hL (by decide)) (va_cwS 2 hts (lw_S q303 q304 q13 q305) rfl rfl rfl (by decide +kernel) ⟨Nat.le_of_ble_eq_true rfl, Nat.le_of_ble_eq_true rfl⟩) ⟨pc_blind, pc_at (va_X.kept hX (hS.2.1 b hbl hbA))⟩ rfl rfl hl.1 rfl (lv_room (Nat.le_of_ble_eq_true rfl)) dX0_with_42 ⟨Nat.le_of_ble_eq_true rfl, Nat.le_of_ble_eq_true rfl⟩) ?_
  refine lv_aload_n hx hb dX0_with_45 rfl (lv_at hl 1 rfl) ?_
  refine lv_bipush (v := 6) hx hb dX0_with_46 (by decide) ?_
  refine tp_i (y := nI 6) rfl ?_
  refine cs_i (W.runS (As := [.ref b, .int (nI 6)]) (rest := [.int (cl_ L xs 5), .int (cl_ L xs 4), .int (nI 1), .ref q1]) ⟨hx, hb, hml, hown, hts⟩ (mt_cell l b L 6 xs hL (by decide)) (va_cwS 2 hts (lw_S q303 q304 q13 q305) rfl rfl rfl (by decide +kernel) ⟨Nat.le_of_ble_eq_true rfl, Nat.le_of_ble_eq_true rfl⟩) ⟨pc_blind, pc_at (va_X.kept hX (hS.2.1 b hbl hbA))⟩ rfl rfl hl.1 rfl (lv_room (Nat.le_of_ble_eq_true rfl)) dX0_with_48 ⟨Nat.le_of_ble_eq_true rfl, Nat.le_of_ble_eq_true rfl⟩) ?_
  refine lv_aload_n hx hb dX0_with_51 rfl (lv_at hl 1 rfl) ?_
  refine lv_bipush (v := 7) hx hb dX0_with_52 (by decide) ?_
  refine tp_i (y := nI 7) rfl ?_
  refine cs_i (W.runS (As := [.ref b, .int (nI 7)]) (rest := [.int (cl_ L xs 6), .int (cl_ L xs 5), .int (cl_ L xs 4), .int (nI 1), .ref q1]) ⟨hx, hb, hml, hown, hts⟩ (mt_cell l b L 7 xs hL (by decide)) (va_cwS 2 hts (lw_S q303 q304 q13 q305) rfl rfl rfl (by decide +kernel) ⟨Nat.le_of_ble_eq_true rfl, Nat.le_of_ble_eq_true rfl⟩) ⟨pc_blind, pc_at (va_X.kept hX (hS.2.1 b hbl hbA))⟩ rfl rfl hl.1 rfl (lv_room (Nat.le_of_ble_eq_true rfl)) dX0_with_54 ⟨Nat.le_of_ble_eq_true rfl, Nat.le_of_ble_eq_true rfl⟩) ?_
  have hPc := hP.sub (ws' := [(q1, .inr (0, [.ref dk, .ref db, .ref do_])), (dk, .inl (cB, 32, .inl (sd_4w kn_z 0 (cl_ L xs 0) (cl_ L xs 1) (cl_ L xs 2) (cl_ L xs 3))))]) [0, 1] rfl
  have hDc := hD.sub (ws' := [(q1, .inr (0, [.ref dk, .ref db, .ref do_])), (dk, .inl (cB, 32, .inl (sd_4w kn_z 0 (cl_ L xs 0) (cl_ L xs 1) (cl_ L xs 2) (cl_ L xs 3))))]) [0, 1] (by decide) rfl
  have hFc := va_free (wc := [(q1, .inr (0, [.ref dk, .ref db, .ref do_])), (dk, .inl (cB, 32, .inl (sd_4w kn_z 0 (cl_ L xs 0) (cl_ L xs 1) (cl_ L xs 2) (cl_ L xs 3))))]) hD hS hA [0, 1] rfl
  refine va_callv (va_runV (As := [.int (nI 1), .int (cl_ L xs 4), .int (cl_ L xs 5), .int (cl_ L xs 6), .int (cl_ L xs 7)]) (rest := []) ⟨hx, hb, hml, hown, hts⟩ (mt_key l D cB cI q1 dk db do_ _ 1 (sd_4w kn_z 0 (cl_ L xs 0) (cl_ L xs 1) (cl_ L xs 2) (cl_ L xs 3)) (cl_ L xs 4) (cl_ L xs 5) (cl_ L xs 6) (cl_ L xs 7) (by decide)) (cwV 5 hts (lw_V q306 q307 q308 q14 q309) rfl rfl rfl (by decide +kernel) ⟨Nat.le_of_ble_eq_true rfl, Nat.le_of_ble_eq_true rfl⟩) ⟨px_blind, va_recv hK hP (ci := 0) (q0 := 0) rfl rfl, px_at hPc hK hDc⟩ rfl rfl hl.1 rfl (lv_room (Nat.le_of_ble_eq_true rfl)) dX0_with_57 ⟨Nat.le_of_ble_eq_true rfl, Nat.le_of_ble_eq_true rfl⟩) hS (fun q _ h => hFc q h) hFc (fun u_ t H locs ht hvm hw hB hz1 hk1 hS => ?_)
  obtain ⟨hP1, hD1⟩ := hB
  rw [ht] at hP1
  obtain ⟨hP, hD⟩ := va_join (wr := [(db, .inl (cB, 16, .inl kn_z)), (do_, .inl (cB, 16, .inl kn_z))]) (w1 := [(q1, .inr (0, [.ref dk, .ref db, .ref do_])), (dk, .inl (cB, 32, .inl (sd_4w (sd_4w kn_z 0 (cl_ L xs 0) (cl_ L xs 1) (cl_ L xs 2) (cl_ L xs 3)) 16 (cl_ L xs 4) (cl_ L xs 5) (cl_ L xs 6) (cl_ L xs 7))))]) hP hD [0, 1] [2, 3] rfl rfl (by decide) (by decide) hk1 hFc hP1 hD1
  have hP := hP.sub (ws' := [(q1, .inr (0, [.ref dk, .ref db, .ref do_])), (dk, .inl (cB, 32, .inl (sd_4w (sd_4w kn_z 0 (cl_ L xs 0) (cl_ L xs 1) (cl_ L xs 2) (cl_ L xs 3)) 16 (cl_ L xs 4) (cl_ L xs 5) (cl_ L xs 6) (cl_ L xs 7)))), (db, .inl (cB, 16, .inl kn_z)), (do_, .inl (cB, 16, .inl kn_z))]) [2, 3, 0, 1] rfl
  have hD := hD.sub (ws' := [(q1, .inr (0, [.ref dk, .ref db, .ref do_])), (dk, .inl (cB, 32, .inl (sd_4w (sd_4w kn_z 0 (cl_ L xs 0) (cl_ L xs 1) (cl_ L xs 2) (cl_ L xs 3)) 16 (cl_ L xs 4) (cl_ L xs 5) (cl_ L xs 6) (cl_ L xs 7)))), (db, .inl (cB, 16, .inl kn_z)), (do_, .inl (cB, 16, .inl kn_z))]) [2, 3, 0, 1] (by decide) rfl
  refine lv_aload_n hx hb dX0_with_60 rfl (lv_at hl 0 rfl) ?_
  refine lv_aload_n hx hb dX0_with_61 rfl (lv_at hl 1 rfl) ?_
  refine lv_bipush (v := 8) hx hb dX0_with_62 (by decide) ?_
  refine tp_i (y := nI 8) rfl ?_
  refine cs_i (W.runS (As := [.ref b, .int (nI 8)]) (rest := [.ref q1]) ⟨hx, hb, hml, hown, hts⟩ (mt_cell l b L 8 xs hL (by decide)) (va_cwS 2 hts (lw_S q303 q304 q13 q305) rfl rfl rfl (by decide +kernel) ⟨Nat.le_of_ble_eq_true rfl, Nat.le_of_ble_eq_true rfl⟩) ⟨pc_blind, pc_at (va_X.kept hX (hS.2.1 b hbl hbA))⟩ rfl rfl hl.1 rfl (lv_room (Nat.le_of_ble_eq_true rfl)) dX0_with_64 ⟨Nat.le_of_ble_eq_true rfl, Nat.le_of_ble_eq_true rfl⟩) ?_
  refine lv_aload_n hx hb dX0_with_67 rfl (lv_at hl 1 rfl) ?_
  refine lv_bipush (v := 9) hx hb dX0_with_68 (by decide) ?_
  refine tp_i (y := nI 9) rfl ?_
  refine cs_i (W.runS (As := [.ref b, .int (nI 9)]) (rest := [.int (cl_ L xs 8), .ref q1]) ⟨hx, hb, hml, hown, hts⟩ (mt_cell l b L 9 xs hL (by decide)) (va_cwS 2 hts (lw_S q303 q304 q13 q305) rfl rfl rfl (by decide +kernel) ⟨Nat.le_of_ble_eq_true rfl, Nat.le_of_ble_eq_true rfl⟩) ⟨pc_blind, pc_at (va_X.kept hX (hS.2.1 b hbl hbA))⟩ rfl rfl hl.1 rfl (lv_room (Nat.le_of_ble_eq_true rfl)) dX0_with_70 ⟨Nat.le_of_ble_eq_true rfl, Nat.le_of_ble_eq_true rfl⟩) ?_
  refine lv_aload_n hx hb dX0_with_73 rfl (lv_at hl 1 rfl) ?_
  refine lv_bipush (v := 10) hx hb dX0_with_74 (by decide) ?_
  refine tp_i (y := nI 10) rfl ?_
  refine cs_i (W.runS (As := [.ref b, .int (nI 10)]) (rest := [.int (cl_ L xs 9), .int (cl_ L xs 8), .ref q1]) ⟨hx, hb, hml, hown, hts⟩ (mt_cell l b L 10 xs hL (by decide)) (va_cwS 2 hts (lw_S q303 q304 q13 q305) rfl rfl rfl (by decide +kernel) ⟨Nat.le_of_ble_eq_true rfl, Nat.le_of_ble_eq_true rfl⟩) ⟨pc_blind, pc_at (va_X.kept hX (hS.2.1 b hbl hbA))⟩ rfl rfl hl.1 rfl (lv_room (Nat.le_of_ble_eq_true rfl)) dX0_with_76 ⟨Nat.le_of_ble_eq_true rfl, Nat.le_of_ble_eq_true rfl⟩) ?_
  refine lv_aload_n hx hb dX0_with_79 rfl (lv_at hl 1 rfl) ?_
  refine lv_bipush (v := 11) hx hb dX0_with_80 (by decide) ?_
  refine tp_i (y := nI 11) rfl ?_
  refine cs_i (W.runS (As := [.ref b, .int (nI 11)]) (rest := [.int (cl_ L xs 10), .int (cl_ L xs 9), .int (cl_ L xs 8), .ref q1]) ⟨hx, hb, hml, hown, hts⟩ (mt_cell l b L 11 xs hL (by decide)) (va_cwS 2 hts (lw_S q303 q304 q13 q305) rfl rfl rfl (by decide +kernel) ⟨Nat.le_of_ble_eq_true rfl, Nat.le_of_ble_eq_true rfl⟩) ⟨pc_blind, pc_at (va_X.kept hX (hS.2.1 b hbl hbA))⟩ rfl rfl hl.1 rfl (lv_room (Nat.le_of_ble_eq_true rfl)) dX0_with_82 ⟨Nat.le_of_ble_eq_true rfl, Nat.le_of_ble_eq_true rfl⟩) ?_
  have hPc := hP.sub (ws' := [(q1, .inr (0, [.ref dk, .ref db, .ref do_])), (db, .inl (cB, 16, .inl kn_z))]) [0, 2] rfl
  have hDc := hD.sub (ws' := [(q1, .inr (0, [.ref dk, .ref db, .ref do_])), (db, .inl (cB, 16, .inl kn_z))]) [0, 2] (by decide) rfl
  have hFc := va_free (wc := [(q1, .inr (0, [.ref dk, .ref db, .ref do_])), (db, .inl (cB, 16, .inl kn_z))]) hD hS hA [0, 2] rfl
  refine va_callv (va_runV (As := [.int (cl_ L xs 8), .int (cl_ L xs 9), .int (cl_ L xs 10), .int (cl_ L xs 11)]) (rest := []) ⟨hx, hb, hml, hown, hts⟩ (mt_blk l D cB cI q1 dk db do_ _ kn_z (cl_ L xs 8) (cl_ L xs 9) (cl_ L xs 10) (cl_ L xs 11)) (cwV 4 hts (lw_V q313 q314 q315 q14 q316) rfl rfl rfl (by decide +kernel) ⟨Nat.le_of_ble_eq_true rfl, Nat.le_of_ble_eq_true rfl⟩) ⟨px_blind, va_recv hK hP (ci := 0) (q0 := 0) rfl rfl, px_at hPc hK hDc⟩ rfl rfl hl.1 rfl (lv_room (Nat.le_of_ble_eq_true rfl)) dX0_with_85 ⟨Nat.le_of_ble_eq_true rfl, Nat.le_of_ble_eq_true rfl⟩) hS (fun q _ h => hFc q h) hFc (fun u_ t H locs ht hvm hw hB hz1 hk1 hS => ?_)
  obtain ⟨hP1, hD1⟩ := hB
  rw [ht] at hP1
  obtain ⟨hP, hD⟩ := va_join (wr := [(dk, .inl (cB, 32, .inl (sd_4w (sd_4w kn_z 0 (cl_ L xs 0) (cl_ L xs 1) (cl_ L xs 2) (cl_ L xs 3)) 16 (cl_ L xs 4) (cl_ L xs 5) (cl_ L xs 6) (cl_ L xs 7)))), (do_, .inl (cB, 16, .inl kn_z))]) (w1 := [(q1, .inr (0, [.ref dk, .ref db, .ref do_])), (db, .inl (cB, 16, .inl (sd_4w kn_z 0 (cl_ L xs 8) (cl_ L xs 9) (cl_ L xs 10) (cl_ L xs 11))))]) hP hD [0, 2] [1, 3] rfl rfl (by decide) (by decide) hk1 hFc hP1 hD1
  have hP := hP.sub (ws' := [(q1, .inr (0, [.ref dk, .ref db, .ref do_])), (dk, .inl (cB, 32, .inl (sd_4w (sd_4w kn_z 0 (cl_ L xs 0) (cl_ L xs 1) (cl_ L xs 2) (cl_ L xs 3)) 16 (cl_ L xs 4) (cl_ L xs 5) (cl_ L xs 6) (cl_ L xs 7)))), (db, .inl (cB, 16, .inl (sd_4w kn_z 0 (cl_ L xs 8) (cl_ L xs 9) (cl_ L xs 10) (cl_ L xs 11)))), (do_, .inl (cB, 16, .inl kn_z))]) [2, 0, 3, 1] rfl
  have hD := hD.sub (ws' := [(q1, .inr (0, [.ref dk, .ref db, .ref do_])), (dk, .inl (cB, 32, .inl (sd_4w (sd_4w kn_z 0 (cl_ L xs 0) (cl_ L xs 1) (cl_ L xs 2) (cl_ L xs 3)) 16 (cl_ L xs 4) (cl_ L xs 5) (cl_ L xs 6) (cl_ L xs 7)))), (db, .inl (cB, 16, .inl (sd_4w kn_z 0 (cl_ L xs 8) (cl_ L xs 9) (cl_ L xs 10) (cl_ L xs 11)))), (do_, .inl (cB, 16, .inl kn_z))]) [2, 0, 3, 1] (by decide) rfl
  refine lv_aload_n hx hb dX0_with_88 rfl (lv_at hl 0 rfl) ?_
  refine W.widen (k := 4) (n := 67) (Nat.le_of_ble_eq_true rfl) (Nat.le_of_ble_eq_true rfl) ?_
  exact W.aret (v := .ref q1) hx hb hr (Or.inl ⟨_, rfl⟩) (Or.inr ⟨_, rfl⟩) (fun t ht hW => ⟨⟨(dk, db, do_), q1, rfl, trivial, by rw [ht]; exact hP, hD⟩, hS.F ht⟩) hS.2.2 dX0_with_89
set_option maxHeartbeats 4000000 in
set_option maxRecDepth 100000 in
/-- same(x, s): all sixteen bytes -/
theorem mt_same (l : Launch) (D : va_G) (ws : va_W) (cB cI : ClassId) (k1 k2 h0 ka ba oa b L : Nat) (xs o : Nat → Int32) (hw1 : ws[k1]? = some (h0, .inr (0, [.ref ka, .ref ba, .ref oa]))) (hw2 : ws[k2]? = some (oa, .inl (cB, 16, .inl o))) (hL : L < 2 ^ 31) (ho : ∀ i, i < 16 → o i &&& 255 = sd_wb (cl_ L xs (8 + i / 4)) (i % 4)) : Met l yX0_same (ws_ yX0_same cX0_same 3 (some .boolean)) ({ frames := 1, cells := 0, slots := 0, locals := 21 }) (va_Pc [.ref h0, .ref b] (ps_ D ws (tyBI cB cI) b L xs)) (vp_Si (fun r => r = 1)) 0 0 (fun _ => False) := by
  refine Met.ofW (cc := cX0_same) (maxL := 3) (ret := (some .boolean)) (by decide) rfl ?_
  intro p e s m args below meth c s₁ B hml hv
  obtain ⟨rfl, ⟨hP, hK⟩, hX⟩ := hv
  have hx := B.exec
  have hb := B.bytes
  have hr := B.returns
  have hts := atoms_spec (ws := (ws_ yX0_same cX0_same 3 (some .boolean))) B.pre
  have hts : ∀ w ∈ lw_all, w.before _ s = true := fun w h => hts w (List.mem_cons_of_mem _ h)
  have hown : s.vm.findClass RX0 = some m.cls := findClass_of_methodNamed B.named
  have hlocks := B.notSynchronized
  have hS : va_S nn_ s.heap s.heap [] := va_S.rf
  have hl := lv_entry ([.ref h0, .ref b]) (n := 3) (Nat.le_of_ble_eq_true rfl)
  rw [lg_entry_eq]
  generalize (lg_sl ([.ref h0, .ref b]) ++ List.replicate (3 - (lg_sl ([.ref h0, .ref b])).length) Slot.unset).toArray = ls at hl ⊢
  have hl : lv_has ls 3 [(0, .ref h0), (1, .ref b)] := hl
  have hX : va_X b L xs s s.heap := hX
  have hbl := va_X_lt hX
  have hbA : ¬ nn_ b := fun h => h
  refine lv_iconst (v := 0) hx hb dX0_same_0 (by decide) ?_
  refine tp_i (y := nI 0) rfl ?_
  refine lv_istore_n (lv' := [(2, .int (nI 0)), (0, .ref h0), (1, .ref b)]) hx hb dX0_same_1 rfl hl (by decide) rfl (fun ls hl => ?_)
  refine lp_pure (fun i ls => lv_has ls 3 [(2, .int (nI i)), (0, .ref h0), (1, .ref b)]) 16 (fun i ls hi hl ih => ?_) (fun ls hl => ?_) (lv_sub hl [0, 1, 2] rfl)
  · refine lv_iload_n hx hb dX0_same_2 rfl (lv_at hl 0 rfl) ?_
    refine lv_bipush (v := 16) hx hb dX0_same_3 (by decide) ?_
    refine lv_icmp_ge (tgt := 48) hx hb dX0_same_5 (by decide) (fun c0 => ?_) (fun c0 => ?_)
    · exact absurd c0 (nI_ge (by omega) (by omega) : ¬ nI 16 ≤ nI i)
    · refine lv_aload_n hx hb dX0_same_8 rfl (lv_at hl 1 rfl) ?_
      refine lv_iload_n hx hb dX0_same_9 rfl (lv_at hl 0 rfl) ?_
      refine cs_i (W.runV (As := [.int (nI i)]) (rest := []) ⟨hx, hb, hml, hown, hts⟩ (mt_out l D _ cB cI k1 k2 h0 ka ba oa i o hw1 hw2 hi) (cwV 1 hts (lw_V q320 q321 q322 q14 q323) rfl rfl rfl (by decide +kernel) ⟨Nat.le_of_ble_eq_true rfl, Nat.le_of_ble_eq_true rfl⟩) ⟨pu_blind, va_recv hK hP (ci := 0) (q0 := k1) rfl hw1, pu_at hP hK⟩ rfl rfl hl.1 rfl (lv_room (Nat.le_of_ble_eq_true rfl)) dX0_same_10 ⟨Nat.le_of_ble_eq_true rfl, Nat.le_of_ble_eq_true rfl⟩) ?_
      refine lv_aload_n hx hb dX0_same_13 rfl (lv_at hl 2 rfl) ?_
      refine lv_bipush (v := 8) hx hb dX0_same_14 (by decide) ?_
      refine lv_iload_n hx hb dX0_same_16 rfl (lv_at hl 0 rfl) ?_
      refine lv_iconst (v := 4) hx hb dX0_same_17 (by decide) ?_
      refine lv_idiv hx hb dX0_same_18 (by decide) ?_
      refine tp_i (y := nI (i / 4)) (pk_div (d := 4) (by omega) (by decide) (by decide)) ?_
      refine lv_iadd hx hb dX0_same_19 ?_
      refine tp_i (y := nI (8 + i / 4)) (nI_add 8 (i / 4)) ?_
      refine cs_i (W.runS (As := [.ref b, .int (nI (8 + i / 4))]) (rest := [.int (o i &&& 255)]) ⟨hx, hb, hml, hown, hts⟩ (mt_cell l b L (8 + i / 4) xs hL (by omega)) (va_cwS 2 hts (lw_S q303 q304 q13 q305) rfl rfl rfl (by decide +kernel) ⟨Nat.le_of_ble_eq_true rfl, Nat.le_of_ble_eq_true rfl⟩) ⟨pc_blind, pc_at (va_X.kept hX (hS.2.1 b hbl hbA))⟩ rfl rfl hl.1 rfl (lv_room (Nat.le_of_ble_eq_true rfl)) dX0_same_20 ⟨Nat.le_of_ble_eq_true rfl, Nat.le_of_ble_eq_true rfl⟩) ?_
      refine lv_bipush (v := 24) hx hb dX0_same_23 (by decide) ?_
      refine lv_bipush (v := 8) hx hb dX0_same_25 (by decide) ?_
      refine lv_iload_n hx hb dX0_same_27 rfl (lv_at hl 0 rfl) ?_
      refine lv_iconst (v := 4) hx hb dX0_same_28 (by decide) ?_
      refine lv_irem hx hb dX0_same_29 (by decide) ?_
      refine tp_i (y := nI (i % 4)) (pk_rem (d := 4) (by omega) (by decide) (by decide)) ?_
      refine lv_imul hx hb dX0_same_30 ?_
      refine tp_i (y := nI (8 * (i % 4))) (pk_mul 8 (i % 4)) ?_
      refine lv_isub hx hb dX0_same_31 ?_
      refine tp_i (y := nI (24 - 8 * (i % 4))) (pk_sub (a := 24) (by omega)) ?_
      refine lv_iushr hx hb dX0_same_32 rfl ?_
      refine lv_sipush (v := 255) hx hb dX0_same_33 (by decide) ?_
      refine lv_iand hx hb dX0_same_36 ?_
      refine tp_i (y := sd_wb (cl_ L xs (8 + i / 4)) (i % 4)) rfl ?_
      refine lv_icmp_eq (tgt := 42) hx hb dX0_same_37 (by decide) (fun c1 => ?_) (fun c1 => ?_)
      · refine lv_iinc (v := nI (i + 1)) (lv' := [(2, .int (nI (i + 1))), (0, .ref h0), (1, .ref b)]) hx hb dX0_same_42 hl (k := 0) rfl (nI_inc i) (by decide) rfl (fun ls hl => ?_)
        refine lv_goto (tgt := 2) hx hb dX0_same_45 (by decide) ?_
        exact ih ls (lv_sub hl [0, 1, 2] rfl)
      · exact absurd (ho i hi) c1
  · refine lv_iload_n hx hb dX0_same_2 rfl (lv_at hl 0 rfl) ?_
    refine lv_bipush (v := 16) hx hb dX0_same_3 (by decide) ?_
    refine lv_icmp_ge (tgt := 48) hx hb dX0_same_5 (by decide) (fun c0 => ?_) (fun c0 => ?_)
    · refine lv_iconst (v := 1) hx hb dX0_same_48 (by decide) ?_
      exact W.zret (v := 1) hx hb hr rfl (fun t ht hW => ⟨_, rfl, rfl, ht⟩) (fun q hq => by cases hq) dX0_same_49
    · exact absurd (by decide) c0
end
section
/-! SeedDeskLaw.known: the four published vectors (printed by w_law.py) -/
set_option maxHeartbeats 4000000 in
set_option maxRecDepth 100000 in
/-- known(): four published vectors come out -/
theorem mt_known (l : Launch) (D : va_G) (cB cI : ClassId) (sz : Nat) : Met l yX0_known (ws_ yX0_known cX0_known 9 (some .boolean)) ({ frames := 7, cells := 40, slots := 604, locals := 174 }) (va_Pc [] (pz_ D [] (tyBI cB cI) sz)) (va_Qi (fun (r : Int32) (_ : Unit) => r = 1) (fun _ _ => True) (va_A [] sz)) 40 604 (va_A [] sz) := by
  refine Met.ofW (cc := cX0_known) (maxL := 9) (ret := (some .boolean)) (by decide) rfl ?_
  intro p e s m args below meth c s₁ B hml hv
  obtain ⟨rfl, ⟨⟨hsz, hP, hK, hD0⟩, hT0⟩, hI⟩ := hv
  have hx := B.exec
  have hb := B.bytes
  have hr := B.returns
  have hts := atoms_spec (ws := (ws_ yX0_known cX0_known 9 (some .boolean))) B.pre
  have hts : ∀ w ∈ lw_all, w.before _ s = true := fun w h => hts w (List.mem_cons_of_mem _ h)
  have hown : s.vm.findClass RX0 = some m.cls := findClass_of_methodNamed B.named
  have hlocks := B.notSynchronized
  subst hsz
  have hD := hD0.self (sz := s.heap.size)
  generalize hAe : va_A [] s.heap.size = A at hD hT0 ⊢
  have hA : ∀ q : Nat, s.heap.size ≤ q → A q := fun q h => by rw [← hAe]; exact Or.inr h
  have hS : va_S A s.heap s.heap [] := va_S.rf
  have hP : va_P D sCl [] s.heap := hP
  have hT : tb_ A s s.heap := hT0
  have hl := lv_entry ([]) (n := 9) (Nat.le_of_ble_eq_true rfl)
  rw [lg_entry_eq]
  generalize (lg_sl ([]) ++ List.replicate (9 - (lg_sl ([])).length) Slot.unset).toArray = ls at hl ⊢
  have hl : lv_has ls 9 [] := hl
  refine va_new (ci := 0) (fs := [.null, .null, .null]) (C := RX1) (T := TX1) (N := 3) hx hb hts in_X1 tyX1 tyX1_ok hown (hts _ q288) (hts _ q33) (hts _ q14) hK hP hD hS hA rfl (fun j hj => by rcases (show j = 0 ∨ j = 1 ∨ j = 2 by omega) with rfl | rfl | rfl <;> rfl) (Nat.le_of_ble_eq_true rfl) (Nat.le_of_ble_eq_true rfl) dX0_known_0 (fun x0 H hP hD hS => ?_)
  have hP : va_P D sCl [(x0, .inr (0, [.null, .null, .null]))] H := hP
  have hD : va_D A [(x0, .inr (0, [.null, .null, .null]))] := hD
  refine W.widen (k := 1) (n := 3) (Nat.le_of_ble_eq_true rfl) (Nat.le_of_ble_eq_true rfl) ?_
  refine lv_dup hx hb dX0_known_3 rfl ?_
  have hPc := hP.sub (ws' := [(x0, .inr (0, [.null, .null, .null]))]) [0] rfl
  have hDc := hD.sub (ws' := [(x0, .inr (0, [.null, .null, .null]))]) [0] (by decide) rfl
  have hFc := va_free (wc := [(x0, .inr (0, [.null, .null, .null]))]) hD hS hA [0] rfl
  refine va_callv (va_runI (As := []) (rest := [.ref x0]) ⟨hx, hb, hml, hown, hts⟩ (mt_sd l D cB cI x0 _ .null .null .null) (cwI 0 hts (lw_meth q291) rfl rfl rfl (hts _ q14) (hts _ q289) (hts _ q290) rfl (by decide +kernel) ⟨Nat.le_of_ble_eq_true rfl, Nat.le_of_ble_eq_true rfl⟩) ⟨px_blind, px_at hPc hK hDc⟩ rfl rfl hl.1 rfl (lv_room (Nat.le_of_ble_eq_true rfl)) dX0_known_4 ⟨Nat.le_of_ble_eq_true rfl, Nat.le_of_ble_eq_true rfl⟩) hS (fun q _ h => hFc q h) hFc (fun uu t H locs ht hvm hw hB hz1 hk1 hS => ?_)
  obtain ⟨x0k, x0b, x0o⟩ := uu
  obtain ⟨hP1, hD1⟩ := hB
  rw [ht] at hP1
  obtain ⟨hP, hD⟩ := va_join (wr := []) (w1 := [(x0, .inr (0, [.ref x0k, .ref x0b, .ref x0o])), (x0k, .inl (cB, 32, .inl kn_z)), (x0b, .inl (cB, 16, .inl kn_z)), (x0o, .inl (cB, 16, .inl kn_z))]) hP hD [0] [] rfl rfl (by decide) (by decide) hk1 hFc hP1 hD1
  have hP := hP.sub (ws' := [(x0, .inr (0, [.ref x0k, .ref x0b, .ref x0o])), (x0k, .inl (cB, 32, .inl kn_z)), (x0b, .inl (cB, 16, .inl kn_z)), (x0o, .inl (cB, 16, .inl kn_z))]) [0, 1, 2, 3] rfl
  have hD := hD.sub (ws' := [(x0, .inr (0, [.ref x0k, .ref x0b, .ref x0o])), (x0k, .inl (cB, 32, .inl kn_z)), (x0b, .inl (cB, 16, .inl kn_z)), (x0o, .inl (cB, 16, .inl kn_z))]) [0, 1, 2, 3] (by decide) rfl
  refine W.widen (k := 4) (n := 67) (Nat.le_of_ble_eq_true rfl) (Nat.le_of_ble_eq_true rfl) ?_
  refine lv_astore_n (lv' := [(0, .ref x0)]) hx hb dX0_known_7 rfl hl (by decide) rfl (fun ls hl => ?_)
  refine lv_aload_n hx hb dX0_known_8 rfl (lv_at hl 0 rfl) ?_
  refine lv_iconst (v := 0) hx hb dX0_known_9 (by decide) ?_
  refine lv_iconst (v := 0) hx hb dX0_known_10 (by decide) ?_
  refine lv_iconst (v := 0) hx hb dX0_known_11 (by decide) ?_
  refine lv_iconst (v := 0) hx hb dX0_known_12 (by decide) ?_
  refine lv_iconst (v := 0) hx hb dX0_known_13 (by decide) ?_
  have hPc := hP.sub (ws' := [(x0, .inr (0, [.ref x0k, .ref x0b, .ref x0o])), (x0k, .inl (cB, 32, .inl kn_z))]) [0, 1] rfl
  have hDc := hD.sub (ws' := [(x0, .inr (0, [.ref x0k, .ref x0b, .ref x0o])), (x0k, .inl (cB, 32, .inl kn_z))]) [0, 1] (by decide) rfl
  have hFc := va_free (wc := [(x0, .inr (0, [.ref x0k, .ref x0b, .ref x0o])), (x0k, .inl (cB, 32, .inl kn_z))]) hD hS hA [0, 1] rfl
  refine va_callv (va_runV (As := [.int (nI 0), .int 0, .int 0, .int 0, .int 0]) (rest := []) ⟨hx, hb, hml, hown, hts⟩ (mt_key l D cB cI x0 x0k x0b x0o _ 0 kn_z 0 0 0 0 (by decide)) (cwV 5 hts (lw_V q306 q307 q308 q14 q309) rfl rfl rfl (by decide +kernel) ⟨Nat.le_of_ble_eq_true rfl, Nat.le_of_ble_eq_true rfl⟩) ⟨px_blind, va_recv hK hP (ci := 0) (q0 := 0) rfl rfl, px_at hPc hK hDc⟩ rfl rfl hl.1 rfl (lv_room (Nat.le_of_ble_eq_true rfl)) dX0_known_14 ⟨Nat.le_of_ble_eq_true rfl, Nat.le_of_ble_eq_true rfl⟩) hS (fun q _ h => hFc q h) hFc (fun u_ t H locs ht hvm hw hB hz1 hk1 hS => ?_)
  obtain ⟨hP1, hD1⟩ := hB
  rw [ht] at hP1
  obtain ⟨hP, hD⟩ := va_join (wr := [(x0b, .inl (cB, 16, .inl kn_z)), (x0o, .inl (cB, 16, .inl kn_z))]) (w1 := [(x0, .inr (0, [.ref x0k, .ref x0b, .ref x0o])), (x0k, .inl (cB, 32, .inl (sd_4w kn_z 0 0 0 0 0)))]) hP hD [0, 1] [2, 3] rfl rfl (by decide) (by decide) hk1 hFc hP1 hD1
  have hP := hP.sub (ws' := [(x0, .inr (0, [.ref x0k, .ref x0b, .ref x0o])), (x0k, .inl (cB, 32, .inl (sd_4w kn_z 0 0 0 0 0))), (x0b, .inl (cB, 16, .inl kn_z)), (x0o, .inl (cB, 16, .inl kn_z))]) [2, 3, 0, 1] rfl
  have hD := hD.sub (ws' := [(x0, .inr (0, [.ref x0k, .ref x0b, .ref x0o])), (x0k, .inl (cB, 32, .inl (sd_4w kn_z 0 0 0 0 0))), (x0b, .inl (cB, 16, .inl kn_z)), (x0o, .inl (cB, 16, .inl kn_z))]) [2, 3, 0, 1] (by decide) rfl
  refine lv_aload_n hx hb dX0_known_17 rfl (lv_at hl 0 rfl) ?_
  refine lv_iconst (v := 1) hx hb dX0_known_18 (by decide) ?_
  refine lv_iconst (v := 0) hx hb dX0_known_19 (by decide) ?_
  refine lv_iconst (v := 0) hx hb dX0_known_20 (by decide) ?_
  refine lv_iconst (v := 0) hx hb dX0_known_21 (by decide) ?_
  refine lv_iconst (v := 0) hx hb dX0_known_22 (by decide) ?_
  have hPc := hP.sub (ws' := [(x0, .inr (0, [.ref x0k, .ref x0b, .ref x0o])), (x0k, .inl (cB, 32, .inl (sd_4w kn_z 0 0 0 0 0)))]) [0, 1] rfl
  have hDc := hD.sub (ws' := [(x0, .inr (0, [.ref x0k, .ref x0b, .ref x0o])), (x0k, .inl (cB, 32, .inl (sd_4w kn_z 0 0 0 0 0)))]) [0, 1] (by decide) rfl
  have hFc := va_free (wc := [(x0, .inr (0, [.ref x0k, .ref x0b, .ref x0o])), (x0k, .inl (cB, 32, .inl (sd_4w kn_z 0 0 0 0 0)))]) hD hS hA [0, 1] rfl
  refine va_callv (va_runV (As := [.int (nI 1), .int 0, .int 0, .int 0, .int 0]) (rest := []) ⟨hx, hb, hml, hown, hts⟩ (mt_key l D cB cI x0 x0k x0b x0o _ 1 (sd_4w kn_z 0 0 0 0 0) 0 0 0 0 (by decide)) (cwV 5 hts (lw_V q306 q307 q308 q14 q309) rfl rfl rfl (by decide +kernel) ⟨Nat.le_of_ble_eq_true rfl, Nat.le_of_ble_eq_true rfl⟩) ⟨px_blind, va_recv hK hP (ci := 0) (q0 := 0) rfl rfl, px_at hPc hK hDc⟩ rfl rfl hl.1 rfl (lv_room (Nat.le_of_ble_eq_true rfl)) dX0_known_23 ⟨Nat.le_of_ble_eq_true rfl, Nat.le_of_ble_eq_true rfl⟩) hS (fun q _ h => hFc q h) hFc (fun u_ t H locs ht hvm hw hB hz1 hk1 hS => ?_)
  obtain ⟨hP1, hD1⟩ := hB
  rw [ht] at hP1
  obtain ⟨hP, hD⟩ := va_join (wr := [(x0b, .inl (cB, 16, .inl kn_z)), (x0o, .inl (cB, 16, .inl kn_z))]) (w1 := [(x0, .inr (0, [.ref x0k, .ref x0b, .ref x0o])), (x0k, .inl (cB, 32, .inl (sd_4w (sd_4w kn_z 0 0 0 0 0) 16 0 0 0 0)))]) hP hD [0, 1] [2, 3] rfl rfl (by decide) (by decide) hk1 hFc hP1 hD1
  have hP := hP.sub (ws' := [(x0, .inr (0, [.ref x0k, .ref x0b, .ref x0o])), (x0k, .inl (cB, 32, .inl (sd_4w (sd_4w kn_z 0 0 0 0 0) 16 0 0 0 0))), (x0b, .inl (cB, 16, .inl kn_z)), (x0o, .inl (cB, 16, .inl kn_z))]) [2, 3, 0, 1] rfl
  have hD := hD.sub (ws' := [(x0, .inr (0, [.ref x0k, .ref x0b, .ref x0o])), (x0k, .inl (cB, 32, .inl (sd_4w (sd_4w kn_z 0 0 0 0 0) 16 0 0 0 0))), (x0b, .inl (cB, 16, .inl kn_z)), (x0o, .inl (cB, 16, .inl kn_z))]) [2, 3, 0, 1] (by decide) rfl
  refine lv_aload_n hx hb dX0_known_26 rfl (lv_at hl 0 rfl) ?_
  refine lv_ldc (v := 66051) hx hb hown (hts _ q327) dX0_known_27 ?_
  refine lv_ldc (v := 67438087) hx hb hown (hts _ q328) dX0_known_29 ?_
  refine lv_ldc (v := 134810123) hx hb hown (hts _ q329) dX0_known_31 ?_
  refine lv_ldc (v := 202182159) hx hb hown (hts _ q330) dX0_known_33 ?_
  have hPc := hP.sub (ws' := [(x0, .inr (0, [.ref x0k, .ref x0b, .ref x0o])), (x0b, .inl (cB, 16, .inl kn_z))]) [0, 2] rfl
  have hDc := hD.sub (ws' := [(x0, .inr (0, [.ref x0k, .ref x0b, .ref x0o])), (x0b, .inl (cB, 16, .inl kn_z))]) [0, 2] (by decide) rfl
  have hFc := va_free (wc := [(x0, .inr (0, [.ref x0k, .ref x0b, .ref x0o])), (x0b, .inl (cB, 16, .inl kn_z))]) hD hS hA [0, 2] rfl
  refine va_callv (va_runV (As := [.int 66051, .int 67438087, .int 134810123, .int 202182159]) (rest := []) ⟨hx, hb, hml, hown, hts⟩ (mt_blk l D cB cI x0 x0k x0b x0o _ kn_z 66051 67438087 134810123 202182159) (cwV 4 hts (lw_V q313 q314 q315 q14 q316) rfl rfl rfl (by decide +kernel) ⟨Nat.le_of_ble_eq_true rfl, Nat.le_of_ble_eq_true rfl⟩) ⟨px_blind, va_recv hK hP (ci := 0) (q0 := 0) rfl rfl, px_at hPc hK hDc⟩ rfl rfl hl.1 rfl (lv_room (Nat.le_of_ble_eq_true rfl)) dX0_known_35 ⟨Nat.le_of_ble_eq_true rfl, Nat.le_of_ble_eq_true rfl⟩) hS (fun q _ h => hFc q h) hFc (fun u_ t H locs ht hvm hw hB hz1 hk1 hS => ?_)
  obtain ⟨hP1, hD1⟩ := hB
  rw [ht] at hP1
  obtain ⟨hP, hD⟩ := va_join (wr := [(x0k, .inl (cB, 32, .inl (sd_4w (sd_4w kn_z 0 0 0 0 0) 16 0 0 0 0))), (x0o, .inl (cB, 16, .inl kn_z))]) (w1 := [(x0, .inr (0, [.ref x0k, .ref x0b, .ref x0o])), (x0b, .inl (cB, 16, .inl (sd_4w kn_z 0 66051 67438087 134810123 202182159)))]) hP hD [0, 2] [1, 3] rfl rfl (by decide) (by decide) hk1 hFc hP1 hD1
  have hP := hP.sub (ws' := [(x0, .inr (0, [.ref x0k, .ref x0b, .ref x0o])), (x0k, .inl (cB, 32, .inl (sd_4w (sd_4w kn_z 0 0 0 0 0) 16 0 0 0 0))), (x0b, .inl (cB, 16, .inl (sd_4w kn_z 0 66051 67438087 134810123 202182159))), (x0o, .inl (cB, 16, .inl kn_z))]) [2, 0, 3, 1] rfl
  have hD := hD.sub (ws' := [(x0, .inr (0, [.ref x0k, .ref x0b, .ref x0o])), (x0k, .inl (cB, 32, .inl (sd_4w (sd_4w kn_z 0 0 0 0 0) 16 0 0 0 0))), (x0b, .inl (cB, 16, .inl (sd_4w kn_z 0 66051 67438087 134810123 202182159))), (x0o, .inl (cB, 16, .inl kn_z))]) [2, 0, 3, 1] (by decide) rfl
  have hP : va_P D sCl [(x0, .inr (0, [.ref x0k, .ref x0b, .ref x0o])), (x0k, .inl (cB, 32, .inl kn_k0)), (x0b, .inl (cB, 16, .inl kn_b0)), (x0o, .inl (cB, 16, .inl kn_z))] H := hP
  have hD : va_D A [(x0, .inr (0, [.ref x0k, .ref x0b, .ref x0o])), (x0k, .inl (cB, 32, .inl kn_k0)), (x0b, .inl (cB, 16, .inl kn_b0)), (x0o, .inl (cB, 16, .inl kn_z))] := hD
  refine lv_aload_n hx hb dX0_known_38 rfl (lv_at hl 0 rfl) ?_
  refine lv_iconst (v := 0) hx hb dX0_known_39 (by decide) ?_
  have hPc := hP.sub (ws' := [(x0, .inr (0, [.ref x0k, .ref x0b, .ref x0o])), (x0k, .inl (cB, 32, .inl kn_k0)), (x0b, .inl (cB, 16, .inl kn_b0)), (x0o, .inl (cB, 16, .inl kn_z))]) [0, 1, 2, 3] rfl
  have hDc := hD.sub (ws' := [(x0, .inr (0, [.ref x0k, .ref x0b, .ref x0o])), (x0k, .inl (cB, 32, .inl kn_k0)), (x0b, .inl (cB, 16, .inl kn_b0)), (x0o, .inl (cB, 16, .inl kn_z))]) [0, 1, 2, 3] (by decide) rfl
  have hFc := va_free (wc := [(x0, .inr (0, [.ref x0k, .ref x0b, .ref x0o])), (x0k, .inl (cB, 32, .inl kn_k0)), (x0b, .inl (cB, 16, .inl kn_b0)), (x0o, .inl (cB, 16, .inl kn_z))]) hD hS hA [0, 1, 2, 3] rfl
  have hTc := tb_here hT hS hFc
  refine va_callv (va_runV (As := [.int 0]) (rest := []) ⟨hx, hb, hml, hown, hts⟩ (mt_lock l D cB cI x0 x0k x0b x0o _ kn_k0 kn_b0 kn_z 0) (cwV 1 hts (lw_V q26 q27 q28 q14 q29) rfl rfl rfl (by decide +kernel) ⟨Nat.le_of_ble_eq_true rfl, Nat.le_of_ble_eq_true rfl⟩) ⟨pz_blind, va_recv hK hP (ci := 0) (q0 := 0) rfl rfl, pz_at hPc hK hDc hTc hI⟩ rfl rfl hl.1 rfl (lv_room (Nat.le_of_ble_eq_true rfl)) dX0_known_40 ⟨Nat.le_of_ble_eq_true rfl, Nat.le_of_ble_eq_true rfl⟩) hS (fun q _ h => hFc q h) hFc (fun u_ t H locs ht hvm hw hB hz1 hk1 hS => ?_)
  obtain ⟨hP1, hD1⟩ := hB
  rw [ht] at hP1
  obtain ⟨hP, hD⟩ := va_join (wr := []) (w1 := [(x0, .inr (0, [.ref x0k, .ref x0b, .ref x0o])), (x0k, .inl (cB, 32, .inl kn_k0)), (x0b, .inl (cB, 16, .inl kn_b0)), (x0o, .inl (cB, 16, .inl (sd_run true kn_k0 kn_b0 kn_z)))]) hP hD [0, 1, 2, 3] [] rfl rfl (by decide) (by decide) hk1 hFc hP1 hD1
  have hP := hP.sub (ws' := [(x0, .inr (0, [.ref x0k, .ref x0b, .ref x0o])), (x0k, .inl (cB, 32, .inl kn_k0)), (x0b, .inl (cB, 16, .inl kn_b0)), (x0o, .inl (cB, 16, .inl (sd_run true kn_k0 kn_b0 kn_z)))]) [0, 1, 2, 3] rfl
  have hD := hD.sub (ws' := [(x0, .inr (0, [.ref x0k, .ref x0b, .ref x0o])), (x0k, .inl (cB, 32, .inl kn_k0)), (x0b, .inl (cB, 16, .inl kn_b0)), (x0o, .inl (cB, 16, .inl (sd_run true kn_k0 kn_b0 kn_z)))]) [0, 1, 2, 3] (by decide) rfl
  refine W.widen (k := 9) (n := 135) (Nat.le_of_ble_eq_true rfl) (Nat.le_of_ble_eq_true rfl) ?_
  refine lv_bipush (v := 16) hx hb dX0_known_43 (by decide) ?_
  refine va_newa (atype := .int) (ty := .int) (a0 := (16, .inl kn_z)) hx hb (hts _ q222) rfl hK hP hD hS hA (fun _ => rfl) (by decide) (by decide) (Nat.le_of_ble_eq_true rfl) (Nat.le_of_ble_eq_true rfl) (Nat.le_of_ble_eq_true rfl) dX0_known_45 (fun v0 cA H hK2 hP hD hS => ?_)
  have hq := ty_sameI hK2
  rw [hq] at hP hD
  have hP : va_P D sCl [(x0, .inr (0, [.ref x0k, .ref x0b, .ref x0o])), (x0k, .inl (cB, 32, .inl kn_k0)), (x0b, .inl (cB, 16, .inl kn_b0)), (x0o, .inl (cB, 16, .inl (sd_run true kn_k0 kn_b0 kn_z))), (v0, .inl (cI, 16, .inl kn_z))] H := hP
  have hD : va_D A [(x0, .inr (0, [.ref x0k, .ref x0b, .ref x0o])), (x0k, .inl (cB, 32, .inl kn_k0)), (x0b, .inl (cB, 16, .inl kn_b0)), (x0o, .inl (cB, 16, .inl (sd_run true kn_k0 kn_b0 kn_z))), (v0, .inl (cI, 16, .inl kn_z))] := hD
  refine W.widen (k := 10) (n := 151) (Nat.le_of_ble_eq_true rfl) (Nat.le_of_ble_eq_true rfl) ?_
  refine lv_dup hx hb dX0_known_47 rfl ?_
  refine lv_iconst (v := 0) hx hb dX0_known_48 (by decide) ?_
  refine lv_bipush (v := 94) hx hb dX0_known_49 (by decide) ?_
  refine va_iast hx hb hK hP hD hS 4 1 rfl rfl (show vp_in (nI 0) 16 from vp_in_nI (by decide) (by decide)) dX0_known_51 (fun H locs hP hD hS => ?_)
  have hP : va_P D sCl [(x0, .inr (0, [.ref x0k, .ref x0b, .ref x0o])), (x0k, .inl (cB, 32, .inl kn_k0)), (x0b, .inl (cB, 16, .inl kn_b0)), (x0o, .inl (cB, 16, .inl (sd_run true kn_k0 kn_b0 kn_z))), (v0, .inl (cI, 16, .inl (upd kn_z 0 94)))] H := hP
  have hD : va_D A [(x0, .inr (0, [.ref x0k, .ref x0b, .ref x0o])), (x0k, .inl (cB, 32, .inl kn_k0)), (x0b, .inl (cB, 16, .inl kn_b0)), (x0o, .inl (cB, 16, .inl (sd_run true kn_k0 kn_b0 kn_z))), (v0, .inl (cI, 16, .inl (upd kn_z 0 94)))] := hD
  refine lv_dup hx hb dX0_known_52 rfl ?_
  refine lv_iconst (v := 1) hx hb dX0_known_53 (by decide) ?_
  refine lv_sipush (v := 186) hx hb dX0_known_54 (by decide) ?_
  refine va_iast hx hb hK hP hD hS 4 1 rfl rfl (show vp_in (nI 1) 16 from vp_in_nI (by decide) (by decide)) dX0_known_57 (fun H locs hP hD hS => ?_)
  have hP : va_P D sCl [(x0, .inr (0, [.ref x0k, .ref x0b, .ref x0o])), (x0k, .inl (cB, 32, .inl kn_k0)), (x0b, .inl (cB, 16, .inl kn_b0)), (x0o, .inl (cB, 16, .inl (sd_run true kn_k0 kn_b0 kn_z))), (v0, .inl (cI, 16, .inl (upd (upd kn_z 0 94) 1 186)))] H := hP
  have hD : va_D A [(x0, .inr (0, [.ref x0k, .ref x0b, .ref x0o])), (x0k, .inl (cB, 32, .inl kn_k0)), (x0b, .inl (cB, 16, .inl kn_b0)), (x0o, .inl (cB, 16, .inl (sd_run true kn_k0 kn_b0 kn_z))), (v0, .inl (cI, 16, .inl (upd (upd kn_z 0 94) 1 186)))] := hD
  refine lv_dup hx hb dX0_known_58 rfl ?_
  refine lv_iconst (v := 2) hx hb dX0_known_59 (by decide) ?_
  refine lv_sipush (v := 198) hx hb dX0_known_60 (by decide) ?_
  refine va_iast hx hb hK hP hD hS 4 1 rfl rfl (show vp_in (nI 2) 16 from vp_in_nI (by decide) (by decide)) dX0_known_63 (fun H locs hP hD hS => ?_)
  have hP : va_P D sCl [(x0, .inr (0, [.ref x0k, .ref x0b, .ref x0o])), (x0k, .inl (cB, 32, .inl kn_k0)), (x0b, .inl (cB, 16, .inl kn_b0)), (x0o, .inl (cB, 16, .inl (sd_run true kn_k0 kn_b0 kn_z))), (v0, .inl (cI, 16, .inl (upd (upd (upd kn_z 0 94) 1 186) 2 198)))] H := hP
  have hD : va_D A [(x0, .inr (0, [.ref x0k, .ref x0b, .ref x0o])), (x0k, .inl (cB, 32, .inl kn_k0)), (x0b, .inl (cB, 16, .inl kn_b0)), (x0o, .inl (cB, 16, .inl (sd_run true kn_k0 kn_b0 kn_z))), (v0, .inl (cI, 16, .inl (upd (upd (upd kn_z 0 94) 1 186) 2 198)))] := hD
  refine lv_dup hx hb dX0_known_64 rfl ?_
  refine lv_iconst (v := 3) hx hb dX0_known_65 (by decide) ?_
  refine lv_sipush (v := 224) hx hb dX0_known_66 (by decide) ?_
  refine va_iast hx hb hK hP hD hS 4 1 rfl rfl (show vp_in (nI 3) 16 from vp_in_nI (by decide) (by decide)) dX0_known_69 (fun H locs hP hD hS => ?_)
  have hP : va_P D sCl [(x0, .inr (0, [.ref x0k, .ref x0b, .ref x0o])), (x0k, .inl (cB, 32, .inl kn_k0)), (x0b, .inl (cB, 16, .inl kn_b0)), (x0o, .inl (cB, 16, .inl (sd_run true kn_k0 kn_b0 kn_z))), (v0, .inl (cI, 16, .inl (upd (upd (upd (upd kn_z 0 94) 1 186) 2 198) 3 224)))] H := hP
  have hD : va_D A [(x0, .inr (0, [.ref x0k, .ref x0b, .ref x0o])), (x0k, .inl (cB, 32, .inl kn_k0)), (x0b, .inl (cB, 16, .inl kn_b0)), (x0o, .inl (cB, 16, .inl (sd_run true kn_k0 kn_b0 kn_z))), (v0, .inl (cI, 16, .inl (upd (upd (upd (upd kn_z 0 94) 1 186) 2 198) 3 224)))] := hD
  refine lv_dup hx hb dX0_known_70 rfl ?_
  refine lv_iconst (v := 4) hx hb dX0_known_71 (by decide) ?_
  refine lv_iconst (v := 5) hx hb dX0_known_72 (by decide) ?_
  refine va_iast hx hb hK hP hD hS 4 1 rfl rfl (show vp_in (nI 4) 16 from vp_in_nI (by decide) (by decide)) dX0_known_73 (fun H locs hP hD hS => ?_)
  have hP : va_P D sCl [(x0, .inr (0, [.ref x0k, .ref x0b, .ref x0o])), (x0k, .inl (cB, 32, .inl kn_k0)), (x0b, .inl (cB, 16, .inl kn_b0)), (x0o, .inl (cB, 16, .inl (sd_run true kn_k0 kn_b0 kn_z))), (v0, .inl (cI, 16, .inl (upd (upd (upd (upd (upd kn_z 0 94) 1 186) 2 198) 3 224) 4 5)))] H := hP
  have hD : va_D A [(x0, .inr (0, [.ref x0k, .ref x0b, .ref x0o])), (x0k, .inl (cB, 32, .inl kn_k0)), (x0b, .inl (cB, 16, .inl kn_b0)), (x0o, .inl (cB, 16, .inl (sd_run true kn_k0 kn_b0 kn_z))), (v0, .inl (cI, 16, .inl (upd (upd (upd (upd (upd kn_z 0 94) 1 186) 2 198) 3 224) 4 5)))] := hD
  refine lv_dup hx hb dX0_known_74 rfl ?_
  refine lv_iconst (v := 5) hx hb dX0_known_75 (by decide) ?_
  refine lv_bipush (v := 78) hx hb dX0_known_76 (by decide) ?_
  refine va_iast hx hb hK hP hD hS 4 1 rfl rfl (show vp_in (nI 5) 16 from vp_in_nI (by decide) (by decide)) dX0_known_78 (fun H locs hP hD hS => ?_)
  have hP : va_P D sCl [(x0, .inr (0, [.ref x0k, .ref x0b, .ref x0o])), (x0k, .inl (cB, 32, .inl kn_k0)), (x0b, .inl (cB, 16, .inl kn_b0)), (x0o, .inl (cB, 16, .inl (sd_run true kn_k0 kn_b0 kn_z))), (v0, .inl (cI, 16, .inl (upd (upd (upd (upd (upd (upd kn_z 0 94) 1 186) 2 198) 3 224) 4 5) 5 78)))] H := hP
  have hD : va_D A [(x0, .inr (0, [.ref x0k, .ref x0b, .ref x0o])), (x0k, .inl (cB, 32, .inl kn_k0)), (x0b, .inl (cB, 16, .inl kn_b0)), (x0o, .inl (cB, 16, .inl (sd_run true kn_k0 kn_b0 kn_z))), (v0, .inl (cI, 16, .inl (upd (upd (upd (upd (upd (upd kn_z 0 94) 1 186) 2 198) 3 224) 4 5) 5 78)))] := hD
  refine lv_dup hx hb dX0_known_79 rfl ?_
  refine lv_bipush (v := 6) hx hb dX0_known_80 (by decide) ?_
  refine lv_bipush (v := 22) hx hb dX0_known_82 (by decide) ?_
  refine va_iast hx hb hK hP hD hS 4 1 rfl rfl (show vp_in (nI 6) 16 from vp_in_nI (by decide) (by decide)) dX0_known_84 (fun H locs hP hD hS => ?_)
  have hP : va_P D sCl [(x0, .inr (0, [.ref x0k, .ref x0b, .ref x0o])), (x0k, .inl (cB, 32, .inl kn_k0)), (x0b, .inl (cB, 16, .inl kn_b0)), (x0o, .inl (cB, 16, .inl (sd_run true kn_k0 kn_b0 kn_z))), (v0, .inl (cI, 16, .inl (upd (upd (upd (upd (upd (upd (upd kn_z 0 94) 1 186) 2 198) 3 224) 4 5) 5 78) 6 22)))] H := hP
  have hD : va_D A [(x0, .inr (0, [.ref x0k, .ref x0b, .ref x0o])), (x0k, .inl (cB, 32, .inl kn_k0)), (x0b, .inl (cB, 16, .inl kn_b0)), (x0o, .inl (cB, 16, .inl (sd_run true kn_k0 kn_b0 kn_z))), (v0, .inl (cI, 16, .inl (upd (upd (upd (upd (upd (upd (upd kn_z 0 94) 1 186) 2 198) 3 224) 4 5) 5 78) 6 22)))] := hD
  refine lv_dup hx hb dX0_known_85 rfl ?_
  refine lv_bipush (v := 7) hx hb dX0_known_86 (by decide) ?_
  refine lv_bipush (v := 104) hx hb dX0_known_88 (by decide) ?_
  refine va_iast hx hb hK hP hD hS 4 1 rfl rfl (show vp_in (nI 7) 16 from vp_in_nI (by decide) (by decide)) dX0_known_90 (fun H locs hP hD hS => ?_)
  have hP : va_P D sCl [(x0, .inr (0, [.ref x0k, .ref x0b, .ref x0o])), (x0k, .inl (cB, 32, .inl kn_k0)), (x0b, .inl (cB, 16, .inl kn_b0)), (x0o, .inl (cB, 16, .inl (sd_run true kn_k0 kn_b0 kn_z))), (v0, .inl (cI, 16, .inl (upd (upd (upd (upd (upd (upd (upd (upd kn_z 0 94) 1 186) 2 198) 3 224) 4 5) 5 78) 6 22) 7 104)))] H := hP
  have hD : va_D A [(x0, .inr (0, [.ref x0k, .ref x0b, .ref x0o])), (x0k, .inl (cB, 32, .inl kn_k0)), (x0b, .inl (cB, 16, .inl kn_b0)), (x0o, .inl (cB, 16, .inl (sd_run true kn_k0 kn_b0 kn_z))), (v0, .inl (cI, 16, .inl (upd (upd (upd (upd (upd (upd (upd (upd kn_z 0 94) 1 186) 2 198) 3 224) 4 5) 5 78) 6 22) 7 104)))] := hD
  refine lv_dup hx hb dX0_known_91 rfl ?_
  refine lv_bipush (v := 8) hx hb dX0_known_92 (by decide) ?_
  refine lv_bipush (v := 25) hx hb dX0_known_94 (by decide) ?_
  refine va_iast hx hb hK hP hD hS 4 1 rfl rfl (show vp_in (nI 8) 16 from vp_in_nI (by decide) (by decide)) dX0_known_96 (fun H locs hP hD hS => ?_)
  have hP : va_P D sCl [(x0, .inr (0, [.ref x0k, .ref x0b, .ref x0o])), (x0k, .inl (cB, 32, .inl kn_k0)), (x0b, .inl (cB, 16, .inl kn_b0)), (x0o, .inl (cB, 16, .inl (sd_run true kn_k0 kn_b0 kn_z))), (v0, .inl (cI, 16, .inl (upd (upd (upd (upd (upd (upd (upd (upd (upd kn_z 0 94) 1 186) 2 198) 3 224) 4 5) 5 78) 6 22) 7 104) 8 25)))] H := hP
  have hD : va_D A [(x0, .inr (0, [.ref x0k, .ref x0b, .ref x0o])), (x0k, .inl (cB, 32, .inl kn_k0)), (x0b, .inl (cB, 16, .inl kn_b0)), (x0o, .inl (cB, 16, .inl (sd_run true kn_k0 kn_b0 kn_z))), (v0, .inl (cI, 16, .inl (upd (upd (upd (upd (upd (upd (upd (upd (upd kn_z 0 94) 1 186) 2 198) 3 224) 4 5) 5 78) 6 22) 7 104) 8 25)))] := hD
  refine lv_dup hx hb dX0_known_97 rfl ?_
  refine lv_bipush (v := 9) hx hb dX0_known_98 (by decide) ?_
  refine lv_sipush (v := 175) hx hb dX0_known_100 (by decide) ?_
  refine va_iast hx hb hK hP hD hS 4 1 rfl rfl (show vp_in (nI 9) 16 from vp_in_nI (by decide) (by decide)) dX0_known_103 (fun H locs hP hD hS => ?_)
  have hP : va_P D sCl [(x0, .inr (0, [.ref x0k, .ref x0b, .ref x0o])), (x0k, .inl (cB, 32, .inl kn_k0)), (x0b, .inl (cB, 16, .inl kn_b0)), (x0o, .inl (cB, 16, .inl (sd_run true kn_k0 kn_b0 kn_z))), (v0, .inl (cI, 16, .inl (upd (upd (upd (upd (upd (upd (upd (upd (upd (upd kn_z 0 94) 1 186) 2 198) 3 224) 4 5) 5 78) 6 22) 7 104) 8 25) 9 175)))] H := hP
  have hD : va_D A [(x0, .inr (0, [.ref x0k, .ref x0b, .ref x0o])), (x0k, .inl (cB, 32, .inl kn_k0)), (x0b, .inl (cB, 16, .inl kn_b0)), (x0o, .inl (cB, 16, .inl (sd_run true kn_k0 kn_b0 kn_z))), (v0, .inl (cI, 16, .inl (upd (upd (upd (upd (upd (upd (upd (upd (upd (upd kn_z 0 94) 1 186) 2 198) 3 224) 4 5) 5 78) 6 22) 7 104) 8 25) 9 175)))] := hD
  refine lv_dup hx hb dX0_known_104 rfl ?_
  refine lv_bipush (v := 10) hx hb dX0_known_105 (by decide) ?_
  refine lv_sipush (v := 241) hx hb dX0_known_107 (by decide) ?_
  refine va_iast hx hb hK hP hD hS 4 1 rfl rfl (show vp_in (nI 10) 16 from vp_in_nI (by decide) (by decide)) dX0_known_110 (fun H locs hP hD hS => ?_)
  have hP : va_P D sCl [(x0, .inr (0, [.ref x0k, .ref x0b, .ref x0o])), (x0k, .inl (cB, 32, .inl kn_k0)), (x0b, .inl (cB, 16, .inl kn_b0)), (x0o, .inl (cB, 16, .inl (sd_run true kn_k0 kn_b0 kn_z))), (v0, .inl (cI, 16, .inl (upd (upd (upd (upd (upd (upd (upd (upd (upd (upd (upd kn_z 0 94) 1 186) 2 198) 3 224) 4 5) 5 78) 6 22) 7 104) 8 25) 9 175) 10 241)))] H := hP
  have hD : va_D A [(x0, .inr (0, [.ref x0k, .ref x0b, .ref x0o])), (x0k, .inl (cB, 32, .inl kn_k0)), (x0b, .inl (cB, 16, .inl kn_b0)), (x0o, .inl (cB, 16, .inl (sd_run true kn_k0 kn_b0 kn_z))), (v0, .inl (cI, 16, .inl (upd (upd (upd (upd (upd (upd (upd (upd (upd (upd (upd kn_z 0 94) 1 186) 2 198) 3 224) 4 5) 5 78) 6 22) 7 104) 8 25) 9 175) 10 241)))] := hD
  refine lv_dup hx hb dX0_known_111 rfl ?_
  refine lv_bipush (v := 11) hx hb dX0_known_112 (by decide) ?_
  refine lv_sipush (v := 204) hx hb dX0_known_114 (by decide) ?_
  refine va_iast hx hb hK hP hD hS 4 1 rfl rfl (show vp_in (nI 11) 16 from vp_in_nI (by decide) (by decide)) dX0_known_117 (fun H locs hP hD hS => ?_)
  have hP : va_P D sCl [(x0, .inr (0, [.ref x0k, .ref x0b, .ref x0o])), (x0k, .inl (cB, 32, .inl kn_k0)), (x0b, .inl (cB, 16, .inl kn_b0)), (x0o, .inl (cB, 16, .inl (sd_run true kn_k0 kn_b0 kn_z))), (v0, .inl (cI, 16, .inl (upd (upd (upd (upd (upd (upd (upd (upd (upd (upd (upd (upd kn_z 0 94) 1 186) 2 198) 3 224) 4 5) 5 78) 6 22) 7 104) 8 25) 9 175) 10 241) 11 204)))] H := hP
  have hD : va_D A [(x0, .inr (0, [.ref x0k, .ref x0b, .ref x0o])), (x0k, .inl (cB, 32, .inl kn_k0)), (x0b, .inl (cB, 16, .inl kn_b0)), (x0o, .inl (cB, 16, .inl (sd_run true kn_k0 kn_b0 kn_z))), (v0, .inl (cI, 16, .inl (upd (upd (upd (upd (upd (upd (upd (upd (upd (upd (upd (upd kn_z 0 94) 1 186) 2 198) 3 224) 4 5) 5 78) 6 22) 7 104) 8 25) 9 175) 10 241) 11 204)))] := hD
  refine lv_dup hx hb dX0_known_118 rfl ?_
  refine lv_bipush (v := 12) hx hb dX0_known_119 (by decide) ?_
  refine lv_bipush (v := 109) hx hb dX0_known_121 (by decide) ?_
  refine va_iast hx hb hK hP hD hS 4 1 rfl rfl (show vp_in (nI 12) 16 from vp_in_nI (by decide) (by decide)) dX0_known_123 (fun H locs hP hD hS => ?_)
  have hP : va_P D sCl [(x0, .inr (0, [.ref x0k, .ref x0b, .ref x0o])), (x0k, .inl (cB, 32, .inl kn_k0)), (x0b, .inl (cB, 16, .inl kn_b0)), (x0o, .inl (cB, 16, .inl (sd_run true kn_k0 kn_b0 kn_z))), (v0, .inl (cI, 16, .inl (upd (upd (upd (upd (upd (upd (upd (upd (upd (upd (upd (upd (upd kn_z 0 94) 1 186) 2 198) 3 224) 4 5) 5 78) 6 22) 7 104) 8 25) 9 175) 10 241) 11 204) 12 109)))] H := hP
  have hD : va_D A [(x0, .inr (0, [.ref x0k, .ref x0b, .ref x0o])), (x0k, .inl (cB, 32, .inl kn_k0)), (x0b, .inl (cB, 16, .inl kn_b0)), (x0o, .inl (cB, 16, .inl (sd_run true kn_k0 kn_b0 kn_z))), (v0, .inl (cI, 16, .inl (upd (upd (upd (upd (upd (upd (upd (upd (upd (upd (upd (upd (upd kn_z 0 94) 1 186) 2 198) 3 224) 4 5) 5 78) 6 22) 7 104) 8 25) 9 175) 10 241) 11 204) 12 109)))] := hD
  refine lv_dup hx hb dX0_known_124 rfl ?_
  refine lv_bipush (v := 13) hx hb dX0_known_125 (by decide) ?_
  refine lv_bipush (v := 52) hx hb dX0_known_127 (by decide) ?_
  refine va_iast hx hb hK hP hD hS 4 1 rfl rfl (show vp_in (nI 13) 16 from vp_in_nI (by decide) (by decide)) dX0_known_129 (fun H locs hP hD hS => ?_)
  have hP : va_P D sCl [(x0, .inr (0, [.ref x0k, .ref x0b, .ref x0o])), (x0k, .inl (cB, 32, .inl kn_k0)), (x0b, .inl (cB, 16, .inl kn_b0)), (x0o, .inl (cB, 16, .inl (sd_run true kn_k0 kn_b0 kn_z))), (v0, .inl (cI, 16, .inl (upd (upd (upd (upd (upd (upd (upd (upd (upd (upd (upd (upd (upd (upd kn_z 0 94) 1 186) 2 198) 3 224) 4 5) 5 78) 6 22) 7 104) 8 25) 9 175) 10 241) 11 204) 12 109) 13 52)))] H := hP
  have hD : va_D A [(x0, .inr (0, [.ref x0k, .ref x0b, .ref x0o])), (x0k, .inl (cB, 32, .inl kn_k0)), (x0b, .inl (cB, 16, .inl kn_b0)), (x0o, .inl (cB, 16, .inl (sd_run true kn_k0 kn_b0 kn_z))), (v0, .inl (cI, 16, .inl (upd (upd (upd (upd (upd (upd (upd (upd (upd (upd (upd (upd (upd (upd kn_z 0 94) 1 186) 2 198) 3 224) 4 5) 5 78) 6 22) 7 104) 8 25) 9 175) 10 241) 11 204) 12 109) 13 52)))] := hD
  refine lv_dup hx hb dX0_known_130 rfl ?_
  refine lv_bipush (v := 14) hx hb dX0_known_131 (by decide) ?_
  refine lv_bipush (v := 108) hx hb dX0_known_133 (by decide) ?_
  refine va_iast hx hb hK hP hD hS 4 1 rfl rfl (show vp_in (nI 14) 16 from vp_in_nI (by decide) (by decide)) dX0_known_135 (fun H locs hP hD hS => ?_)
  have hP : va_P D sCl [(x0, .inr (0, [.ref x0k, .ref x0b, .ref x0o])), (x0k, .inl (cB, 32, .inl kn_k0)), (x0b, .inl (cB, 16, .inl kn_b0)), (x0o, .inl (cB, 16, .inl (sd_run true kn_k0 kn_b0 kn_z))), (v0, .inl (cI, 16, .inl (upd (upd (upd (upd (upd (upd (upd (upd (upd (upd (upd (upd (upd (upd (upd kn_z 0 94) 1 186) 2 198) 3 224) 4 5) 5 78) 6 22) 7 104) 8 25) 9 175) 10 241) 11 204) 12 109) 13 52) 14 108)))] H := hP
  have hD : va_D A [(x0, .inr (0, [.ref x0k, .ref x0b, .ref x0o])), (x0k, .inl (cB, 32, .inl kn_k0)), (x0b, .inl (cB, 16, .inl kn_b0)), (x0o, .inl (cB, 16, .inl (sd_run true kn_k0 kn_b0 kn_z))), (v0, .inl (cI, 16, .inl (upd (upd (upd (upd (upd (upd (upd (upd (upd (upd (upd (upd (upd (upd (upd kn_z 0 94) 1 186) 2 198) 3 224) 4 5) 5 78) 6 22) 7 104) 8 25) 9 175) 10 241) 11 204) 12 109) 13 52) 14 108)))] := hD
  refine lv_dup hx hb dX0_known_136 rfl ?_
  refine lv_bipush (v := 15) hx hb dX0_known_137 (by decide) ?_
  refine lv_sipush (v := 219) hx hb dX0_known_139 (by decide) ?_
  refine va_iast hx hb hK hP hD hS 4 1 rfl rfl (show vp_in (nI 15) 16 from vp_in_nI (by decide) (by decide)) dX0_known_142 (fun H locs hP hD hS => ?_)
  have hP : va_P D sCl [(x0, .inr (0, [.ref x0k, .ref x0b, .ref x0o])), (x0k, .inl (cB, 32, .inl kn_k0)), (x0b, .inl (cB, 16, .inl kn_b0)), (x0o, .inl (cB, 16, .inl (sd_run true kn_k0 kn_b0 kn_z))), (v0, .inl (cI, 16, .inl (upd (upd (upd (upd (upd (upd (upd (upd (upd (upd (upd (upd (upd (upd (upd (upd kn_z 0 94) 1 186) 2 198) 3 224) 4 5) 5 78) 6 22) 7 104) 8 25) 9 175) 10 241) 11 204) 12 109) 13 52) 14 108) 15 219)))] H := hP
  have hD : va_D A [(x0, .inr (0, [.ref x0k, .ref x0b, .ref x0o])), (x0k, .inl (cB, 32, .inl kn_k0)), (x0b, .inl (cB, 16, .inl kn_b0)), (x0o, .inl (cB, 16, .inl (sd_run true kn_k0 kn_b0 kn_z))), (v0, .inl (cI, 16, .inl (upd (upd (upd (upd (upd (upd (upd (upd (upd (upd (upd (upd (upd (upd (upd (upd kn_z 0 94) 1 186) 2 198) 3 224) 4 5) 5 78) 6 22) 7 104) 8 25) 9 175) 10 241) 11 204) 12 109) 13 52) 14 108) 15 219)))] := hD
  have hP : va_P D sCl [(x0, .inr (0, [.ref x0k, .ref x0b, .ref x0o])), (x0k, .inl (cB, 32, .inl kn_k0)), (x0b, .inl (cB, 16, .inl kn_b0)), (x0o, .inl (cB, 16, .inl (sd_run true kn_k0 kn_b0 kn_z))), (v0, .inl (cI, 16, .inl kn_v0))] H := hP
  have hD : va_D A [(x0, .inr (0, [.ref x0k, .ref x0b, .ref x0o])), (x0k, .inl (cB, 32, .inl kn_k0)), (x0b, .inl (cB, 16, .inl kn_b0)), (x0o, .inl (cB, 16, .inl (sd_run true kn_k0 kn_b0 kn_z))), (v0, .inl (cI, 16, .inl kn_v0))] := hD
  refine lv_astore_n (lv' := [(1, .ref v0), (0, .ref x0)]) hx hb dX0_known_143 rfl hl (by decide) rfl (fun ls hl => ?_)
  refine lv_iconst (v := 0) hx hb dX0_known_144 (by decide) ?_
  refine tp_i (y := nI 0) rfl ?_
  refine lv_istore_n (lv' := [(2, .int (nI 0)), (1, .ref v0), (0, .ref x0)]) hx hb dX0_known_145 rfl hl (by decide) rfl (fun ls hl => ?_)
  refine lp_pure (fun i ls => lv_has ls 9 [(2, .int (nI i)), (1, .ref v0), (0, .ref x0)]) 16 (fun i ls hi hl ih => ?_) (fun ls hl => ?_) (lv_sub hl [0, 1, 2] rfl)
  · refine lv_iload_n hx hb dX0_known_146 rfl (lv_at hl 0 rfl) ?_
    refine lv_bipush (v := 16) hx hb dX0_known_147 (by decide) ?_
    refine lv_icmp_ge (tgt := 171) hx hb dX0_known_149 (by decide) (fun c0 => ?_) (fun c0 => ?_)
    · exact absurd c0 (nI_ge (by omega) (by omega) : ¬ nI 16 ≤ nI i)
    · refine lv_aload_n hx hb dX0_known_152 rfl (lv_at hl 2 rfl) ?_
      refine lv_iload_n hx hb dX0_known_153 rfl (lv_at hl 0 rfl) ?_
      refine cs_i (W.runV (As := [.int (nI i)]) (rest := []) ⟨hx, hb, hml, hown, hts⟩ (mt_out l D _ cB cI 0 3 x0 x0k x0b x0o i (sd_run true kn_k0 kn_b0 kn_z) rfl rfl hi) (cwV 1 hts (lw_V q320 q321 q322 q14 q323) rfl rfl rfl (by decide +kernel) ⟨Nat.le_of_ble_eq_true rfl, Nat.le_of_ble_eq_true rfl⟩) ⟨pu_blind, va_recv hK hP (ci := 0) (q0 := 0) rfl rfl, pu_at hP hK⟩ rfl rfl hl.1 rfl (lv_room (Nat.le_of_ble_eq_true rfl)) dX0_known_154 ⟨Nat.le_of_ble_eq_true rfl, Nat.le_of_ble_eq_true rfl⟩) ?_
      refine lv_aload_n hx hb dX0_known_157 rfl (lv_at hl 1 rfl) ?_
      refine lv_iload_n hx hb dX0_known_158 rfl (lv_at hl 0 rfl) ?_
      refine va_iald hx hb hK hP 4 1 rfl rfl (vp_in_nI hi (by decide)) dX0_known_159 ?_
      refine tp_i (y := kn_v0 i) (by rw [nI_clamp (by omega)]) ?_
      refine lv_icmp_eq (tgt := 165) hx hb dX0_known_160 (by decide) (fun c1 => ?_) (fun c1 => ?_)
      · refine lv_iinc (v := nI (i + 1)) (lv' := [(2, .int (nI (i + 1))), (1, .ref v0), (0, .ref x0)]) hx hb dX0_known_165 hl (k := 0) rfl (nI_inc i) (by decide) rfl (fun ls hl => ?_)
        refine lv_goto (tgt := 146) hx hb dX0_known_168 (by decide) ?_
        exact ih ls (lv_sub hl [0, 1, 2] rfl)
      · exact absurd (kn_0 kn_z i hi) c1
  · refine lv_iload_n hx hb dX0_known_146 rfl (lv_at hl 0 rfl) ?_
    refine lv_bipush (v := 16) hx hb dX0_known_147 (by decide) ?_
    refine lv_icmp_ge (tgt := 171) hx hb dX0_known_149 (by decide) (fun c0 => ?_) (fun c0 => ?_)
    · have hP := hP.sub (ws' := []) [] rfl
      have hD := hD.sub (ws' := []) [] (by decide) rfl
      refine va_new (ci := 0) (fs := [.null, .null, .null]) (C := RX1) (T := TX1) (N := 3) hx hb hts in_X1 tyX1 tyX1_ok hown (hts _ q288) (hts _ q33) (hts _ q14) hK hP hD hS hA rfl (fun j hj => by rcases (show j = 0 ∨ j = 1 ∨ j = 2 by omega) with rfl | rfl | rfl <;> rfl) (Nat.le_of_ble_eq_true rfl) (Nat.le_of_ble_eq_true rfl) dX0_known_171 (fun x1 H hP hD hS => ?_)
      have hP : va_P D sCl [(x1, .inr (0, [.null, .null, .null]))] H := hP
      have hD : va_D A [(x1, .inr (0, [.null, .null, .null]))] := hD
      refine W.widen (k := 11) (n := 154) (Nat.le_of_ble_eq_true rfl) (Nat.le_of_ble_eq_true rfl) ?_
      refine lv_dup hx hb dX0_known_174 rfl ?_
      have hPc := hP.sub (ws' := [(x1, .inr (0, [.null, .null, .null]))]) [0] rfl
      have hDc := hD.sub (ws' := [(x1, .inr (0, [.null, .null, .null]))]) [0] (by decide) rfl
      have hFc := va_free (wc := [(x1, .inr (0, [.null, .null, .null]))]) hD hS hA [0] rfl
      refine va_callv (va_runI (As := []) (rest := [.ref x1]) ⟨hx, hb, hml, hown, hts⟩ (mt_sd l D cB cI x1 _ .null .null .null) (cwI 0 hts (lw_meth q291) rfl rfl rfl (hts _ q14) (hts _ q289) (hts _ q290) rfl (by decide +kernel) ⟨Nat.le_of_ble_eq_true rfl, Nat.le_of_ble_eq_true rfl⟩) ⟨px_blind, px_at hPc hK hDc⟩ rfl rfl hl.1 rfl (lv_room (Nat.le_of_ble_eq_true rfl)) dX0_known_175 ⟨Nat.le_of_ble_eq_true rfl, Nat.le_of_ble_eq_true rfl⟩) hS (fun q _ h => hFc q h) hFc (fun uu t H locs ht hvm hw hB hz1 hk1 hS => ?_)
      obtain ⟨x1k, x1b, x1o⟩ := uu
      obtain ⟨hP1, hD1⟩ := hB
      rw [ht] at hP1
      obtain ⟨hP, hD⟩ := va_join (wr := []) (w1 := [(x1, .inr (0, [.ref x1k, .ref x1b, .ref x1o])), (x1k, .inl (cB, 32, .inl kn_z)), (x1b, .inl (cB, 16, .inl kn_z)), (x1o, .inl (cB, 16, .inl kn_z))]) hP hD [0] [] rfl rfl (by decide) (by decide) hk1 hFc hP1 hD1
      have hP := hP.sub (ws' := [(x1, .inr (0, [.ref x1k, .ref x1b, .ref x1o])), (x1k, .inl (cB, 32, .inl kn_z)), (x1b, .inl (cB, 16, .inl kn_z)), (x1o, .inl (cB, 16, .inl kn_z))]) [0, 1, 2, 3] rfl
      have hD := hD.sub (ws' := [(x1, .inr (0, [.ref x1k, .ref x1b, .ref x1o])), (x1k, .inl (cB, 32, .inl kn_z)), (x1b, .inl (cB, 16, .inl kn_z)), (x1o, .inl (cB, 16, .inl kn_z))]) [0, 1, 2, 3] (by decide) rfl
      refine W.widen (k := 14) (n := 218) (Nat.le_of_ble_eq_true rfl) (Nat.le_of_ble_eq_true rfl) ?_
      refine lv_astore_n (lv' := [(2, .ref x1), (1, .ref v0), (0, .ref x0)]) hx hb dX0_known_178 rfl hl (by decide) rfl (fun ls hl => ?_)
      refine lv_aload_n hx hb dX0_known_179 rfl (lv_at hl 0 rfl) ?_
      refine lv_iconst (v := 0) hx hb dX0_known_180 (by decide) ?_
      refine lv_ldc (v := 66051) hx hb hown (hts _ q327) dX0_known_181 ?_
      refine lv_ldc (v := 67438087) hx hb hown (hts _ q328) dX0_known_183 ?_
      refine lv_ldc (v := 134810123) hx hb hown (hts _ q329) dX0_known_185 ?_
      refine lv_ldc (v := 202182159) hx hb hown (hts _ q330) dX0_known_187 ?_
      have hPc := hP.sub (ws' := [(x1, .inr (0, [.ref x1k, .ref x1b, .ref x1o])), (x1k, .inl (cB, 32, .inl kn_z))]) [0, 1] rfl
      have hDc := hD.sub (ws' := [(x1, .inr (0, [.ref x1k, .ref x1b, .ref x1o])), (x1k, .inl (cB, 32, .inl kn_z))]) [0, 1] (by decide) rfl
      have hFc := va_free (wc := [(x1, .inr (0, [.ref x1k, .ref x1b, .ref x1o])), (x1k, .inl (cB, 32, .inl kn_z))]) hD hS hA [0, 1] rfl
      refine va_callv (va_runV (As := [.int (nI 0), .int 66051, .int 67438087, .int 134810123, .int 202182159]) (rest := []) ⟨hx, hb, hml, hown, hts⟩ (mt_key l D cB cI x1 x1k x1b x1o _ 0 kn_z 66051 67438087 134810123 202182159 (by decide)) (cwV 5 hts (lw_V q306 q307 q308 q14 q309) rfl rfl rfl (by decide +kernel) ⟨Nat.le_of_ble_eq_true rfl, Nat.le_of_ble_eq_true rfl⟩) ⟨px_blind, va_recv hK hP (ci := 0) (q0 := 0) rfl rfl, px_at hPc hK hDc⟩ rfl rfl hl.1 rfl (lv_room (Nat.le_of_ble_eq_true rfl)) dX0_known_189 ⟨Nat.le_of_ble_eq_true rfl, Nat.le_of_ble_eq_true rfl⟩) hS (fun q _ h => hFc q h) hFc (fun u_ t H locs ht hvm hw hB hz1 hk1 hS => ?_)
      obtain ⟨hP1, hD1⟩ := hB
      rw [ht] at hP1
      obtain ⟨hP, hD⟩ := va_join (wr := [(x1b, .inl (cB, 16, .inl kn_z)), (x1o, .inl (cB, 16, .inl kn_z))]) (w1 := [(x1, .inr (0, [.ref x1k, .ref x1b, .ref x1o])), (x1k, .inl (cB, 32, .inl (sd_4w kn_z 0 66051 67438087 134810123 202182159)))]) hP hD [0, 1] [2, 3] rfl rfl (by decide) (by decide) hk1 hFc hP1 hD1
      have hP := hP.sub (ws' := [(x1, .inr (0, [.ref x1k, .ref x1b, .ref x1o])), (x1k, .inl (cB, 32, .inl (sd_4w kn_z 0 66051 67438087 134810123 202182159))), (x1b, .inl (cB, 16, .inl kn_z)), (x1o, .inl (cB, 16, .inl kn_z))]) [2, 3, 0, 1] rfl
      have hD := hD.sub (ws' := [(x1, .inr (0, [.ref x1k, .ref x1b, .ref x1o])), (x1k, .inl (cB, 32, .inl (sd_4w kn_z 0 66051 67438087 134810123 202182159))), (x1b, .inl (cB, 16, .inl kn_z)), (x1o, .inl (cB, 16, .inl kn_z))]) [2, 3, 0, 1] (by decide) rfl
      refine lv_aload_n hx hb dX0_known_192 rfl (lv_at hl 0 rfl) ?_
      refine lv_iconst (v := 1) hx hb dX0_known_193 (by decide) ?_
      refine lv_iconst (v := 0) hx hb dX0_known_194 (by decide) ?_
      refine lv_iconst (v := 0) hx hb dX0_known_195 (by decide) ?_
      refine lv_iconst (v := 0) hx hb dX0_known_196 (by decide) ?_
      refine lv_iconst (v := 0) hx hb dX0_known_197 (by decide) ?_
      have hPc := hP.sub (ws' := [(x1, .inr (0, [.ref x1k, .ref x1b, .ref x1o])), (x1k, .inl (cB, 32, .inl (sd_4w kn_z 0 66051 67438087 134810123 202182159)))]) [0, 1] rfl
      have hDc := hD.sub (ws' := [(x1, .inr (0, [.ref x1k, .ref x1b, .ref x1o])), (x1k, .inl (cB, 32, .inl (sd_4w kn_z 0 66051 67438087 134810123 202182159)))]) [0, 1] (by decide) rfl
      have hFc := va_free (wc := [(x1, .inr (0, [.ref x1k, .ref x1b, .ref x1o])), (x1k, .inl (cB, 32, .inl (sd_4w kn_z 0 66051 67438087 134810123 202182159)))]) hD hS hA [0, 1] rfl
      refine va_callv (va_runV (As := [.int (nI 1), .int 0, .int 0, .int 0, .int 0]) (rest := []) ⟨hx, hb, hml, hown, hts⟩ (mt_key l D cB cI x1 x1k x1b x1o _ 1 (sd_4w kn_z 0 66051 67438087 134810123 202182159) 0 0 0 0 (by decide)) (cwV 5 hts (lw_V q306 q307 q308 q14 q309) rfl rfl rfl (by decide +kernel) ⟨Nat.le_of_ble_eq_true rfl, Nat.le_of_ble_eq_true rfl⟩) ⟨px_blind, va_recv hK hP (ci := 0) (q0 := 0) rfl rfl, px_at hPc hK hDc⟩ rfl rfl hl.1 rfl (lv_room (Nat.le_of_ble_eq_true rfl)) dX0_known_198 ⟨Nat.le_of_ble_eq_true rfl, Nat.le_of_ble_eq_true rfl⟩) hS (fun q _ h => hFc q h) hFc (fun u_ t H locs ht hvm hw hB hz1 hk1 hS => ?_)
      obtain ⟨hP1, hD1⟩ := hB
      rw [ht] at hP1
      obtain ⟨hP, hD⟩ := va_join (wr := [(x1b, .inl (cB, 16, .inl kn_z)), (x1o, .inl (cB, 16, .inl kn_z))]) (w1 := [(x1, .inr (0, [.ref x1k, .ref x1b, .ref x1o])), (x1k, .inl (cB, 32, .inl (sd_4w (sd_4w kn_z 0 66051 67438087 134810123 202182159) 16 0 0 0 0)))]) hP hD [0, 1] [2, 3] rfl rfl (by decide) (by decide) hk1 hFc hP1 hD1
      have hP := hP.sub (ws' := [(x1, .inr (0, [.ref x1k, .ref x1b, .ref x1o])), (x1k, .inl (cB, 32, .inl (sd_4w (sd_4w kn_z 0 66051 67438087 134810123 202182159) 16 0 0 0 0))), (x1b, .inl (cB, 16, .inl kn_z)), (x1o, .inl (cB, 16, .inl kn_z))]) [2, 3, 0, 1] rfl
      have hD := hD.sub (ws' := [(x1, .inr (0, [.ref x1k, .ref x1b, .ref x1o])), (x1k, .inl (cB, 32, .inl (sd_4w (sd_4w kn_z 0 66051 67438087 134810123 202182159) 16 0 0 0 0))), (x1b, .inl (cB, 16, .inl kn_z)), (x1o, .inl (cB, 16, .inl kn_z))]) [2, 3, 0, 1] (by decide) rfl
      refine lv_aload_n hx hb dX0_known_201 rfl (lv_at hl 0 rfl) ?_
      refine lv_iconst (v := 0) hx hb dX0_known_202 (by decide) ?_
      refine lv_iconst (v := 0) hx hb dX0_known_203 (by decide) ?_
      refine lv_iconst (v := 0) hx hb dX0_known_204 (by decide) ?_
      refine lv_iconst (v := 0) hx hb dX0_known_205 (by decide) ?_
      have hPc := hP.sub (ws' := [(x1, .inr (0, [.ref x1k, .ref x1b, .ref x1o])), (x1b, .inl (cB, 16, .inl kn_z))]) [0, 2] rfl
      have hDc := hD.sub (ws' := [(x1, .inr (0, [.ref x1k, .ref x1b, .ref x1o])), (x1b, .inl (cB, 16, .inl kn_z))]) [0, 2] (by decide) rfl
      have hFc := va_free (wc := [(x1, .inr (0, [.ref x1k, .ref x1b, .ref x1o])), (x1b, .inl (cB, 16, .inl kn_z))]) hD hS hA [0, 2] rfl
      refine va_callv (va_runV (As := [.int 0, .int 0, .int 0, .int 0]) (rest := []) ⟨hx, hb, hml, hown, hts⟩ (mt_blk l D cB cI x1 x1k x1b x1o _ kn_z 0 0 0 0) (cwV 4 hts (lw_V q313 q314 q315 q14 q316) rfl rfl rfl (by decide +kernel) ⟨Nat.le_of_ble_eq_true rfl, Nat.le_of_ble_eq_true rfl⟩) ⟨px_blind, va_recv hK hP (ci := 0) (q0 := 0) rfl rfl, px_at hPc hK hDc⟩ rfl rfl hl.1 rfl (lv_room (Nat.le_of_ble_eq_true rfl)) dX0_known_206 ⟨Nat.le_of_ble_eq_true rfl, Nat.le_of_ble_eq_true rfl⟩) hS (fun q _ h => hFc q h) hFc (fun u_ t H locs ht hvm hw hB hz1 hk1 hS => ?_)
      obtain ⟨hP1, hD1⟩ := hB
      rw [ht] at hP1
      obtain ⟨hP, hD⟩ := va_join (wr := [(x1k, .inl (cB, 32, .inl (sd_4w (sd_4w kn_z 0 66051 67438087 134810123 202182159) 16 0 0 0 0))), (x1o, .inl (cB, 16, .inl kn_z))]) (w1 := [(x1, .inr (0, [.ref x1k, .ref x1b, .ref x1o])), (x1b, .inl (cB, 16, .inl (sd_4w kn_z 0 0 0 0 0)))]) hP hD [0, 2] [1, 3] rfl rfl (by decide) (by decide) hk1 hFc hP1 hD1
      have hP := hP.sub (ws' := [(x1, .inr (0, [.ref x1k, .ref x1b, .ref x1o])), (x1k, .inl (cB, 32, .inl (sd_4w (sd_4w kn_z 0 66051 67438087 134810123 202182159) 16 0 0 0 0))), (x1b, .inl (cB, 16, .inl (sd_4w kn_z 0 0 0 0 0))), (x1o, .inl (cB, 16, .inl kn_z))]) [2, 0, 3, 1] rfl
      have hD := hD.sub (ws' := [(x1, .inr (0, [.ref x1k, .ref x1b, .ref x1o])), (x1k, .inl (cB, 32, .inl (sd_4w (sd_4w kn_z 0 66051 67438087 134810123 202182159) 16 0 0 0 0))), (x1b, .inl (cB, 16, .inl (sd_4w kn_z 0 0 0 0 0))), (x1o, .inl (cB, 16, .inl kn_z))]) [2, 0, 3, 1] (by decide) rfl
      have hP : va_P D sCl [(x1, .inr (0, [.ref x1k, .ref x1b, .ref x1o])), (x1k, .inl (cB, 32, .inl kn_k1)), (x1b, .inl (cB, 16, .inl kn_b1)), (x1o, .inl (cB, 16, .inl kn_z))] H := hP
      have hD : va_D A [(x1, .inr (0, [.ref x1k, .ref x1b, .ref x1o])), (x1k, .inl (cB, 32, .inl kn_k1)), (x1b, .inl (cB, 16, .inl kn_b1)), (x1o, .inl (cB, 16, .inl kn_z))] := hD
      refine lv_aload_n hx hb dX0_known_209 rfl (lv_at hl 0 rfl) ?_
      refine lv_iconst (v := 0) hx hb dX0_known_210 (by decide) ?_
      have hPc := hP.sub (ws' := [(x1, .inr (0, [.ref x1k, .ref x1b, .ref x1o])), (x1k, .inl (cB, 32, .inl kn_k1)), (x1b, .inl (cB, 16, .inl kn_b1)), (x1o, .inl (cB, 16, .inl kn_z))]) [0, 1, 2, 3] rfl
      have hDc := hD.sub (ws' := [(x1, .inr (0, [.ref x1k, .ref x1b, .ref x1o])), (x1k, .inl (cB, 32, .inl kn_k1)), (x1b, .inl (cB, 16, .inl kn_b1)), (x1o, .inl (cB, 16, .inl kn_z))]) [0, 1, 2, 3] (by decide) rfl
      have hFc := va_free (wc := [(x1, .inr (0, [.ref x1k, .ref x1b, .ref x1o])), (x1k, .inl (cB, 32, .inl kn_k1)), (x1b, .inl (cB, 16, .inl kn_b1)), (x1o, .inl (cB, 16, .inl kn_z))]) hD hS hA [0, 1, 2, 3] rfl
      have hTc := tb_here hT hS hFc
      refine va_callv (va_runV (As := [.int 0]) (rest := []) ⟨hx, hb, hml, hown, hts⟩ (mt_lock l D cB cI x1 x1k x1b x1o _ kn_k1 kn_b1 kn_z 0) (cwV 1 hts (lw_V q26 q27 q28 q14 q29) rfl rfl rfl (by decide +kernel) ⟨Nat.le_of_ble_eq_true rfl, Nat.le_of_ble_eq_true rfl⟩) ⟨pz_blind, va_recv hK hP (ci := 0) (q0 := 0) rfl rfl, pz_at hPc hK hDc hTc hI⟩ rfl rfl hl.1 rfl (lv_room (Nat.le_of_ble_eq_true rfl)) dX0_known_211 ⟨Nat.le_of_ble_eq_true rfl, Nat.le_of_ble_eq_true rfl⟩) hS (fun q _ h => hFc q h) hFc (fun u_ t H locs ht hvm hw hB hz1 hk1 hS => ?_)
      obtain ⟨hP1, hD1⟩ := hB
      rw [ht] at hP1
      obtain ⟨hP, hD⟩ := va_join (wr := []) (w1 := [(x1, .inr (0, [.ref x1k, .ref x1b, .ref x1o])), (x1k, .inl (cB, 32, .inl kn_k1)), (x1b, .inl (cB, 16, .inl kn_b1)), (x1o, .inl (cB, 16, .inl (sd_run true kn_k1 kn_b1 kn_z)))]) hP hD [0, 1, 2, 3] [] rfl rfl (by decide) (by decide) hk1 hFc hP1 hD1
      have hP := hP.sub (ws' := [(x1, .inr (0, [.ref x1k, .ref x1b, .ref x1o])), (x1k, .inl (cB, 32, .inl kn_k1)), (x1b, .inl (cB, 16, .inl kn_b1)), (x1o, .inl (cB, 16, .inl (sd_run true kn_k1 kn_b1 kn_z)))]) [0, 1, 2, 3] rfl
      have hD := hD.sub (ws' := [(x1, .inr (0, [.ref x1k, .ref x1b, .ref x1o])), (x1k, .inl (cB, 32, .inl kn_k1)), (x1b, .inl (cB, 16, .inl kn_b1)), (x1o, .inl (cB, 16, .inl (sd_run true kn_k1 kn_b1 kn_z)))]) [0, 1, 2, 3] (by decide) rfl
      refine W.widen (k := 19) (n := 286) (Nat.le_of_ble_eq_true rfl) (Nat.le_of_ble_eq_true rfl) ?_
      refine lv_bipush (v := 16) hx hb dX0_known_214 (by decide) ?_
      refine va_newa (atype := .int) (ty := .int) (a0 := (16, .inl kn_z)) hx hb (hts _ q222) rfl hK hP hD hS hA (fun _ => rfl) (by decide) (by decide) (Nat.le_of_ble_eq_true rfl) (Nat.le_of_ble_eq_true rfl) (Nat.le_of_ble_eq_true rfl) dX0_known_216 (fun v1 cA H hK2 hP hD hS => ?_)
      have hq := ty_sameI hK2
      rw [hq] at hP hD
      have hP : va_P D sCl [(x1, .inr (0, [.ref x1k, .ref x1b, .ref x1o])), (x1k, .inl (cB, 32, .inl kn_k1)), (x1b, .inl (cB, 16, .inl kn_b1)), (x1o, .inl (cB, 16, .inl (sd_run true kn_k1 kn_b1 kn_z))), (v1, .inl (cI, 16, .inl kn_z))] H := hP
      have hD : va_D A [(x1, .inr (0, [.ref x1k, .ref x1b, .ref x1o])), (x1k, .inl (cB, 32, .inl kn_k1)), (x1b, .inl (cB, 16, .inl kn_b1)), (x1o, .inl (cB, 16, .inl (sd_run true kn_k1 kn_b1 kn_z))), (v1, .inl (cI, 16, .inl kn_z))] := hD
      refine W.widen (k := 20) (n := 302) (Nat.le_of_ble_eq_true rfl) (Nat.le_of_ble_eq_true rfl) ?_
      refine lv_dup hx hb dX0_known_218 rfl ?_
      refine lv_iconst (v := 0) hx hb dX0_known_219 (by decide) ?_
      refine lv_sipush (v := 193) hx hb dX0_known_220 (by decide) ?_
      refine va_iast hx hb hK hP hD hS 4 1 rfl rfl (show vp_in (nI 0) 16 from vp_in_nI (by decide) (by decide)) dX0_known_223 (fun H locs hP hD hS => ?_)
      have hP : va_P D sCl [(x1, .inr (0, [.ref x1k, .ref x1b, .ref x1o])), (x1k, .inl (cB, 32, .inl kn_k1)), (x1b, .inl (cB, 16, .inl kn_b1)), (x1o, .inl (cB, 16, .inl (sd_run true kn_k1 kn_b1 kn_z))), (v1, .inl (cI, 16, .inl (upd kn_z 0 193)))] H := hP
      have hD : va_D A [(x1, .inr (0, [.ref x1k, .ref x1b, .ref x1o])), (x1k, .inl (cB, 32, .inl kn_k1)), (x1b, .inl (cB, 16, .inl kn_b1)), (x1o, .inl (cB, 16, .inl (sd_run true kn_k1 kn_b1 kn_z))), (v1, .inl (cI, 16, .inl (upd kn_z 0 193)))] := hD
      refine lv_dup hx hb dX0_known_224 rfl ?_
      refine lv_iconst (v := 1) hx hb dX0_known_225 (by decide) ?_
      refine lv_bipush (v := 31) hx hb dX0_known_226 (by decide) ?_
      refine va_iast hx hb hK hP hD hS 4 1 rfl rfl (show vp_in (nI 1) 16 from vp_in_nI (by decide) (by decide)) dX0_known_228 (fun H locs hP hD hS => ?_)
      have hP : va_P D sCl [(x1, .inr (0, [.ref x1k, .ref x1b, .ref x1o])), (x1k, .inl (cB, 32, .inl kn_k1)), (x1b, .inl (cB, 16, .inl kn_b1)), (x1o, .inl (cB, 16, .inl (sd_run true kn_k1 kn_b1 kn_z))), (v1, .inl (cI, 16, .inl (upd (upd kn_z 0 193) 1 31)))] H := hP
      have hD : va_D A [(x1, .inr (0, [.ref x1k, .ref x1b, .ref x1o])), (x1k, .inl (cB, 32, .inl kn_k1)), (x1b, .inl (cB, 16, .inl kn_b1)), (x1o, .inl (cB, 16, .inl (sd_run true kn_k1 kn_b1 kn_z))), (v1, .inl (cI, 16, .inl (upd (upd kn_z 0 193) 1 31)))] := hD
      refine lv_dup hx hb dX0_known_229 rfl ?_
      refine lv_iconst (v := 2) hx hb dX0_known_230 (by decide) ?_
      refine lv_bipush (v := 34) hx hb dX0_known_231 (by decide) ?_
      refine va_iast hx hb hK hP hD hS 4 1 rfl rfl (show vp_in (nI 2) 16 from vp_in_nI (by decide) (by decide)) dX0_known_233 (fun H locs hP hD hS => ?_)
      have hP : va_P D sCl [(x1, .inr (0, [.ref x1k, .ref x1b, .ref x1o])), (x1k, .inl (cB, 32, .inl kn_k1)), (x1b, .inl (cB, 16, .inl kn_b1)), (x1o, .inl (cB, 16, .inl (sd_run true kn_k1 kn_b1 kn_z))), (v1, .inl (cI, 16, .inl (upd (upd (upd kn_z 0 193) 1 31) 2 34)))] H := hP
      have hD : va_D A [(x1, .inr (0, [.ref x1k, .ref x1b, .ref x1o])), (x1k, .inl (cB, 32, .inl kn_k1)), (x1b, .inl (cB, 16, .inl kn_b1)), (x1o, .inl (cB, 16, .inl (sd_run true kn_k1 kn_b1 kn_z))), (v1, .inl (cI, 16, .inl (upd (upd (upd kn_z 0 193) 1 31) 2 34)))] := hD
      refine lv_dup hx hb dX0_known_234 rfl ?_
      refine lv_iconst (v := 3) hx hb dX0_known_235 (by decide) ?_
      refine lv_sipush (v := 242) hx hb dX0_known_236 (by decide) ?_
      refine va_iast hx hb hK hP hD hS 4 1 rfl rfl (show vp_in (nI 3) 16 from vp_in_nI (by decide) (by decide)) dX0_known_239 (fun H locs hP hD hS => ?_)
      have hP : va_P D sCl [(x1, .inr (0, [.ref x1k, .ref x1b, .ref x1o])), (x1k, .inl (cB, 32, .inl kn_k1)), (x1b, .inl (cB, 16, .inl kn_b1)), (x1o, .inl (cB, 16, .inl (sd_run true kn_k1 kn_b1 kn_z))), (v1, .inl (cI, 16, .inl (upd (upd (upd (upd kn_z 0 193) 1 31) 2 34) 3 242)))] H := hP
      have hD : va_D A [(x1, .inr (0, [.ref x1k, .ref x1b, .ref x1o])), (x1k, .inl (cB, 32, .inl kn_k1)), (x1b, .inl (cB, 16, .inl kn_b1)), (x1o, .inl (cB, 16, .inl (sd_run true kn_k1 kn_b1 kn_z))), (v1, .inl (cI, 16, .inl (upd (upd (upd (upd kn_z 0 193) 1 31) 2 34) 3 242)))] := hD
      refine lv_dup hx hb dX0_known_240 rfl ?_
      refine lv_iconst (v := 4) hx hb dX0_known_241 (by decide) ?_
      refine lv_iconst (v := 1) hx hb dX0_known_242 (by decide) ?_
      refine va_iast hx hb hK hP hD hS 4 1 rfl rfl (show vp_in (nI 4) 16 from vp_in_nI (by decide) (by decide)) dX0_known_243 (fun H locs hP hD hS => ?_)
      have hP : va_P D sCl [(x1, .inr (0, [.ref x1k, .ref x1b, .ref x1o])), (x1k, .inl (cB, 32, .inl kn_k1)), (x1b, .inl (cB, 16, .inl kn_b1)), (x1o, .inl (cB, 16, .inl (sd_run true kn_k1 kn_b1 kn_z))), (v1, .inl (cI, 16, .inl (upd (upd (upd (upd (upd kn_z 0 193) 1 31) 2 34) 3 242) 4 1)))] H := hP
      have hD : va_D A [(x1, .inr (0, [.ref x1k, .ref x1b, .ref x1o])), (x1k, .inl (cB, 32, .inl kn_k1)), (x1b, .inl (cB, 16, .inl kn_b1)), (x1o, .inl (cB, 16, .inl (sd_run true kn_k1 kn_b1 kn_z))), (v1, .inl (cI, 16, .inl (upd (upd (upd (upd (upd kn_z 0 193) 1 31) 2 34) 3 242) 4 1)))] := hD
      refine lv_dup hx hb dX0_known_244 rfl ?_
      refine lv_iconst (v := 5) hx hb dX0_known_245 (by decide) ?_
      refine lv_bipush (v := 64) hx hb dX0_known_246 (by decide) ?_
      refine va_iast hx hb hK hP hD hS 4 1 rfl rfl (show vp_in (nI 5) 16 from vp_in_nI (by decide) (by decide)) dX0_known_248 (fun H locs hP hD hS => ?_)
      have hP : va_P D sCl [(x1, .inr (0, [.ref x1k, .ref x1b, .ref x1o])), (x1k, .inl (cB, 32, .inl kn_k1)), (x1b, .inl (cB, 16, .inl kn_b1)), (x1o, .inl (cB, 16, .inl (sd_run true kn_k1 kn_b1 kn_z))), (v1, .inl (cI, 16, .inl (upd (upd (upd (upd (upd (upd kn_z 0 193) 1 31) 2 34) 3 242) 4 1) 5 64)))] H := hP
      have hD : va_D A [(x1, .inr (0, [.ref x1k, .ref x1b, .ref x1o])), (x1k, .inl (cB, 32, .inl kn_k1)), (x1b, .inl (cB, 16, .inl kn_b1)), (x1o, .inl (cB, 16, .inl (sd_run true kn_k1 kn_b1 kn_z))), (v1, .inl (cI, 16, .inl (upd (upd (upd (upd (upd (upd kn_z 0 193) 1 31) 2 34) 3 242) 4 1) 5 64)))] := hD
      refine lv_dup hx hb dX0_known_249 rfl ?_
      refine lv_bipush (v := 6) hx hb dX0_known_250 (by decide) ?_
      refine lv_bipush (v := 80) hx hb dX0_known_252 (by decide) ?_
      refine va_iast hx hb hK hP hD hS 4 1 rfl rfl (show vp_in (nI 6) 16 from vp_in_nI (by decide) (by decide)) dX0_known_254 (fun H locs hP hD hS => ?_)
      have hP : va_P D sCl [(x1, .inr (0, [.ref x1k, .ref x1b, .ref x1o])), (x1k, .inl (cB, 32, .inl kn_k1)), (x1b, .inl (cB, 16, .inl kn_b1)), (x1o, .inl (cB, 16, .inl (sd_run true kn_k1 kn_b1 kn_z))), (v1, .inl (cI, 16, .inl (upd (upd (upd (upd (upd (upd (upd kn_z 0 193) 1 31) 2 34) 3 242) 4 1) 5 64) 6 80)))] H := hP
      have hD : va_D A [(x1, .inr (0, [.ref x1k, .ref x1b, .ref x1o])), (x1k, .inl (cB, 32, .inl kn_k1)), (x1b, .inl (cB, 16, .inl kn_b1)), (x1o, .inl (cB, 16, .inl (sd_run true kn_k1 kn_b1 kn_z))), (v1, .inl (cI, 16, .inl (upd (upd (upd (upd (upd (upd (upd kn_z 0 193) 1 31) 2 34) 3 242) 4 1) 5 64) 6 80)))] := hD
      refine lv_dup hx hb dX0_known_255 rfl ?_
      refine lv_bipush (v := 7) hx hb dX0_known_256 (by decide) ?_
      refine lv_bipush (v := 80) hx hb dX0_known_258 (by decide) ?_
      refine va_iast hx hb hK hP hD hS 4 1 rfl rfl (show vp_in (nI 7) 16 from vp_in_nI (by decide) (by decide)) dX0_known_260 (fun H locs hP hD hS => ?_)
      have hP : va_P D sCl [(x1, .inr (0, [.ref x1k, .ref x1b, .ref x1o])), (x1k, .inl (cB, 32, .inl kn_k1)), (x1b, .inl (cB, 16, .inl kn_b1)), (x1o, .inl (cB, 16, .inl (sd_run true kn_k1 kn_b1 kn_z))), (v1, .inl (cI, 16, .inl (upd (upd (upd (upd (upd (upd (upd (upd kn_z 0 193) 1 31) 2 34) 3 242) 4 1) 5 64) 6 80) 7 80)))] H := hP
      have hD : va_D A [(x1, .inr (0, [.ref x1k, .ref x1b, .ref x1o])), (x1k, .inl (cB, 32, .inl kn_k1)), (x1b, .inl (cB, 16, .inl kn_b1)), (x1o, .inl (cB, 16, .inl (sd_run true kn_k1 kn_b1 kn_z))), (v1, .inl (cI, 16, .inl (upd (upd (upd (upd (upd (upd (upd (upd kn_z 0 193) 1 31) 2 34) 3 242) 4 1) 5 64) 6 80) 7 80)))] := hD
      refine lv_dup hx hb dX0_known_261 rfl ?_
      refine lv_bipush (v := 8) hx hb dX0_known_262 (by decide) ?_
      refine lv_sipush (v := 132) hx hb dX0_known_264 (by decide) ?_
      refine va_iast hx hb hK hP hD hS 4 1 rfl rfl (show vp_in (nI 8) 16 from vp_in_nI (by decide) (by decide)) dX0_known_267 (fun H locs hP hD hS => ?_)
      have hP : va_P D sCl [(x1, .inr (0, [.ref x1k, .ref x1b, .ref x1o])), (x1k, .inl (cB, 32, .inl kn_k1)), (x1b, .inl (cB, 16, .inl kn_b1)), (x1o, .inl (cB, 16, .inl (sd_run true kn_k1 kn_b1 kn_z))), (v1, .inl (cI, 16, .inl (upd (upd (upd (upd (upd (upd (upd (upd (upd kn_z 0 193) 1 31) 2 34) 3 242) 4 1) 5 64) 6 80) 7 80) 8 132)))] H := hP
      have hD : va_D A [(x1, .inr (0, [.ref x1k, .ref x1b, .ref x1o])), (x1k, .inl (cB, 32, .inl kn_k1)), (x1b, .inl (cB, 16, .inl kn_b1)), (x1o, .inl (cB, 16, .inl (sd_run true kn_k1 kn_b1 kn_z))), (v1, .inl (cI, 16, .inl (upd (upd (upd (upd (upd (upd (upd (upd (upd kn_z 0 193) 1 31) 2 34) 3 242) 4 1) 5 64) 6 80) 7 80) 8 132)))] := hD
      refine lv_dup hx hb dX0_known_268 rfl ?_
      refine lv_bipush (v := 9) hx hb dX0_known_269 (by decide) ?_
      refine lv_bipush (v := 72) hx hb dX0_known_271 (by decide) ?_
      refine va_iast hx hb hK hP hD hS 4 1 rfl rfl (show vp_in (nI 9) 16 from vp_in_nI (by decide) (by decide)) dX0_known_273 (fun H locs hP hD hS => ?_)
      have hP : va_P D sCl [(x1, .inr (0, [.ref x1k, .ref x1b, .ref x1o])), (x1k, .inl (cB, 32, .inl kn_k1)), (x1b, .inl (cB, 16, .inl kn_b1)), (x1o, .inl (cB, 16, .inl (sd_run true kn_k1 kn_b1 kn_z))), (v1, .inl (cI, 16, .inl (upd (upd (upd (upd (upd (upd (upd (upd (upd (upd kn_z 0 193) 1 31) 2 34) 3 242) 4 1) 5 64) 6 80) 7 80) 8 132) 9 72)))] H := hP
      have hD : va_D A [(x1, .inr (0, [.ref x1k, .ref x1b, .ref x1o])), (x1k, .inl (cB, 32, .inl kn_k1)), (x1b, .inl (cB, 16, .inl kn_b1)), (x1o, .inl (cB, 16, .inl (sd_run true kn_k1 kn_b1 kn_z))), (v1, .inl (cI, 16, .inl (upd (upd (upd (upd (upd (upd (upd (upd (upd (upd kn_z 0 193) 1 31) 2 34) 3 242) 4 1) 5 64) 6 80) 7 80) 8 132) 9 72)))] := hD
      refine lv_dup hx hb dX0_known_274 rfl ?_
      refine lv_bipush (v := 10) hx hb dX0_known_275 (by decide) ?_
      refine lv_bipush (v := 53) hx hb dX0_known_277 (by decide) ?_
      refine va_iast hx hb hK hP hD hS 4 1 rfl rfl (show vp_in (nI 10) 16 from vp_in_nI (by decide) (by decide)) dX0_known_279 (fun H locs hP hD hS => ?_)
      have hP : va_P D sCl [(x1, .inr (0, [.ref x1k, .ref x1b, .ref x1o])), (x1k, .inl (cB, 32, .inl kn_k1)), (x1b, .inl (cB, 16, .inl kn_b1)), (x1o, .inl (cB, 16, .inl (sd_run true kn_k1 kn_b1 kn_z))), (v1, .inl (cI, 16, .inl (upd (upd (upd (upd (upd (upd (upd (upd (upd (upd (upd kn_z 0 193) 1 31) 2 34) 3 242) 4 1) 5 64) 6 80) 7 80) 8 132) 9 72) 10 53)))] H := hP
      have hD : va_D A [(x1, .inr (0, [.ref x1k, .ref x1b, .ref x1o])), (x1k, .inl (cB, 32, .inl kn_k1)), (x1b, .inl (cB, 16, .inl kn_b1)), (x1o, .inl (cB, 16, .inl (sd_run true kn_k1 kn_b1 kn_z))), (v1, .inl (cI, 16, .inl (upd (upd (upd (upd (upd (upd (upd (upd (upd (upd (upd kn_z 0 193) 1 31) 2 34) 3 242) 4 1) 5 64) 6 80) 7 80) 8 132) 9 72) 10 53)))] := hD
      refine lv_dup hx hb dX0_known_280 rfl ?_
      refine lv_bipush (v := 11) hx hb dX0_known_281 (by decide) ?_
      refine lv_sipush (v := 151) hx hb dX0_known_283 (by decide) ?_
      refine va_iast hx hb hK hP hD hS 4 1 rfl rfl (show vp_in (nI 11) 16 from vp_in_nI (by decide) (by decide)) dX0_known_286 (fun H locs hP hD hS => ?_)
      have hP : va_P D sCl [(x1, .inr (0, [.ref x1k, .ref x1b, .ref x1o])), (x1k, .inl (cB, 32, .inl kn_k1)), (x1b, .inl (cB, 16, .inl kn_b1)), (x1o, .inl (cB, 16, .inl (sd_run true kn_k1 kn_b1 kn_z))), (v1, .inl (cI, 16, .inl (upd (upd (upd (upd (upd (upd (upd (upd (upd (upd (upd (upd kn_z 0 193) 1 31) 2 34) 3 242) 4 1) 5 64) 6 80) 7 80) 8 132) 9 72) 10 53) 11 151)))] H := hP
      have hD : va_D A [(x1, .inr (0, [.ref x1k, .ref x1b, .ref x1o])), (x1k, .inl (cB, 32, .inl kn_k1)), (x1b, .inl (cB, 16, .inl kn_b1)), (x1o, .inl (cB, 16, .inl (sd_run true kn_k1 kn_b1 kn_z))), (v1, .inl (cI, 16, .inl (upd (upd (upd (upd (upd (upd (upd (upd (upd (upd (upd (upd kn_z 0 193) 1 31) 2 34) 3 242) 4 1) 5 64) 6 80) 7 80) 8 132) 9 72) 10 53) 11 151)))] := hD
      refine lv_dup hx hb dX0_known_287 rfl ?_
      refine lv_bipush (v := 12) hx hb dX0_known_288 (by decide) ?_
      refine lv_sipush (v := 228) hx hb dX0_known_290 (by decide) ?_
      refine va_iast hx hb hK hP hD hS 4 1 rfl rfl (show vp_in (nI 12) 16 from vp_in_nI (by decide) (by decide)) dX0_known_293 (fun H locs hP hD hS => ?_)
      have hP : va_P D sCl [(x1, .inr (0, [.ref x1k, .ref x1b, .ref x1o])), (x1k, .inl (cB, 32, .inl kn_k1)), (x1b, .inl (cB, 16, .inl kn_b1)), (x1o, .inl (cB, 16, .inl (sd_run true kn_k1 kn_b1 kn_z))), (v1, .inl (cI, 16, .inl (upd (upd (upd (upd (upd (upd (upd (upd (upd (upd (upd (upd (upd kn_z 0 193) 1 31) 2 34) 3 242) 4 1) 5 64) 6 80) 7 80) 8 132) 9 72) 10 53) 11 151) 12 228)))] H := hP
      have hD : va_D A [(x1, .inr (0, [.ref x1k, .ref x1b, .ref x1o])), (x1k, .inl (cB, 32, .inl kn_k1)), (x1b, .inl (cB, 16, .inl kn_b1)), (x1o, .inl (cB, 16, .inl (sd_run true kn_k1 kn_b1 kn_z))), (v1, .inl (cI, 16, .inl (upd (upd (upd (upd (upd (upd (upd (upd (upd (upd (upd (upd (upd kn_z 0 193) 1 31) 2 34) 3 242) 4 1) 5 64) 6 80) 7 80) 8 132) 9 72) 10 53) 11 151) 12 228)))] := hD
      refine lv_dup hx hb dX0_known_294 rfl ?_
      refine lv_bipush (v := 13) hx hb dX0_known_295 (by decide) ?_
      refine lv_bipush (v := 55) hx hb dX0_known_297 (by decide) ?_
      refine va_iast hx hb hK hP hD hS 4 1 rfl rfl (show vp_in (nI 13) 16 from vp_in_nI (by decide) (by decide)) dX0_known_299 (fun H locs hP hD hS => ?_)
      have hP : va_P D sCl [(x1, .inr (0, [.ref x1k, .ref x1b, .ref x1o])), (x1k, .inl (cB, 32, .inl kn_k1)), (x1b, .inl (cB, 16, .inl kn_b1)), (x1o, .inl (cB, 16, .inl (sd_run true kn_k1 kn_b1 kn_z))), (v1, .inl (cI, 16, .inl (upd (upd (upd (upd (upd (upd (upd (upd (upd (upd (upd (upd (upd (upd kn_z 0 193) 1 31) 2 34) 3 242) 4 1) 5 64) 6 80) 7 80) 8 132) 9 72) 10 53) 11 151) 12 228) 13 55)))] H := hP
      have hD : va_D A [(x1, .inr (0, [.ref x1k, .ref x1b, .ref x1o])), (x1k, .inl (cB, 32, .inl kn_k1)), (x1b, .inl (cB, 16, .inl kn_b1)), (x1o, .inl (cB, 16, .inl (sd_run true kn_k1 kn_b1 kn_z))), (v1, .inl (cI, 16, .inl (upd (upd (upd (upd (upd (upd (upd (upd (upd (upd (upd (upd (upd (upd kn_z 0 193) 1 31) 2 34) 3 242) 4 1) 5 64) 6 80) 7 80) 8 132) 9 72) 10 53) 11 151) 12 228) 13 55)))] := hD
      refine lv_dup hx hb dX0_known_300 rfl ?_
      refine lv_bipush (v := 14) hx hb dX0_known_301 (by decide) ?_
      refine lv_bipush (v := 15) hx hb dX0_known_303 (by decide) ?_
      refine va_iast hx hb hK hP hD hS 4 1 rfl rfl (show vp_in (nI 14) 16 from vp_in_nI (by decide) (by decide)) dX0_known_305 (fun H locs hP hD hS => ?_)
      have hP : va_P D sCl [(x1, .inr (0, [.ref x1k, .ref x1b, .ref x1o])), (x1k, .inl (cB, 32, .inl kn_k1)), (x1b, .inl (cB, 16, .inl kn_b1)), (x1o, .inl (cB, 16, .inl (sd_run true kn_k1 kn_b1 kn_z))), (v1, .inl (cI, 16, .inl (upd (upd (upd (upd (upd (upd (upd (upd (upd (upd (upd (upd (upd (upd (upd kn_z 0 193) 1 31) 2 34) 3 242) 4 1) 5 64) 6 80) 7 80) 8 132) 9 72) 10 53) 11 151) 12 228) 13 55) 14 15)))] H := hP
      have hD : va_D A [(x1, .inr (0, [.ref x1k, .ref x1b, .ref x1o])), (x1k, .inl (cB, 32, .inl kn_k1)), (x1b, .inl (cB, 16, .inl kn_b1)), (x1o, .inl (cB, 16, .inl (sd_run true kn_k1 kn_b1 kn_z))), (v1, .inl (cI, 16, .inl (upd (upd (upd (upd (upd (upd (upd (upd (upd (upd (upd (upd (upd (upd (upd kn_z 0 193) 1 31) 2 34) 3 242) 4 1) 5 64) 6 80) 7 80) 8 132) 9 72) 10 53) 11 151) 12 228) 13 55) 14 15)))] := hD
      refine lv_dup hx hb dX0_known_306 rfl ?_
      refine lv_bipush (v := 15) hx hb dX0_known_307 (by decide) ?_
      refine lv_bipush (v := 67) hx hb dX0_known_309 (by decide) ?_
      refine va_iast hx hb hK hP hD hS 4 1 rfl rfl (show vp_in (nI 15) 16 from vp_in_nI (by decide) (by decide)) dX0_known_311 (fun H locs hP hD hS => ?_)
      have hP : va_P D sCl [(x1, .inr (0, [.ref x1k, .ref x1b, .ref x1o])), (x1k, .inl (cB, 32, .inl kn_k1)), (x1b, .inl (cB, 16, .inl kn_b1)), (x1o, .inl (cB, 16, .inl (sd_run true kn_k1 kn_b1 kn_z))), (v1, .inl (cI, 16, .inl (upd (upd (upd (upd (upd (upd (upd (upd (upd (upd (upd (upd (upd (upd (upd (upd kn_z 0 193) 1 31) 2 34) 3 242) 4 1) 5 64) 6 80) 7 80) 8 132) 9 72) 10 53) 11 151) 12 228) 13 55) 14 15) 15 67)))] H := hP
      have hD : va_D A [(x1, .inr (0, [.ref x1k, .ref x1b, .ref x1o])), (x1k, .inl (cB, 32, .inl kn_k1)), (x1b, .inl (cB, 16, .inl kn_b1)), (x1o, .inl (cB, 16, .inl (sd_run true kn_k1 kn_b1 kn_z))), (v1, .inl (cI, 16, .inl (upd (upd (upd (upd (upd (upd (upd (upd (upd (upd (upd (upd (upd (upd (upd (upd kn_z 0 193) 1 31) 2 34) 3 242) 4 1) 5 64) 6 80) 7 80) 8 132) 9 72) 10 53) 11 151) 12 228) 13 55) 14 15) 15 67)))] := hD
      have hP : va_P D sCl [(x1, .inr (0, [.ref x1k, .ref x1b, .ref x1o])), (x1k, .inl (cB, 32, .inl kn_k1)), (x1b, .inl (cB, 16, .inl kn_b1)), (x1o, .inl (cB, 16, .inl (sd_run true kn_k1 kn_b1 kn_z))), (v1, .inl (cI, 16, .inl kn_v1))] H := hP
      have hD : va_D A [(x1, .inr (0, [.ref x1k, .ref x1b, .ref x1o])), (x1k, .inl (cB, 32, .inl kn_k1)), (x1b, .inl (cB, 16, .inl kn_b1)), (x1o, .inl (cB, 16, .inl (sd_run true kn_k1 kn_b1 kn_z))), (v1, .inl (cI, 16, .inl kn_v1))] := hD
      refine lv_astore_n (lv' := [(3, .ref v1), (2, .ref x1), (1, .ref v0), (0, .ref x0)]) hx hb dX0_known_312 rfl hl (by decide) rfl (fun ls hl => ?_)
      refine lv_iconst (v := 0) hx hb dX0_known_313 (by decide) ?_
      refine tp_i (y := nI 0) rfl ?_
      refine lv_istore (lv' := [(4, .int (nI 0)), (3, .ref v1), (2, .ref x1), (1, .ref v0), (0, .ref x0)]) hx hb dX0_known_314 hl (by decide) rfl (fun ls hl => ?_)
      refine lp_pure (fun i ls => lv_has ls 9 [(4, .int (nI i)), (3, .ref v1), (2, .ref x1)]) 16 (fun i ls hi hl ih => ?_) (fun ls hl => ?_) (lv_sub hl [0, 1, 2] rfl)
      · refine lv_iload hx hb dX0_known_316 (lv_at hl 0 rfl) ?_
        refine lv_bipush (v := 16) hx hb dX0_known_318 (by decide) ?_
        refine lv_icmp_ge (tgt := 344) hx hb dX0_known_320 (by decide) (fun c0 => ?_) (fun c0 => ?_)
        · exact absurd c0 (nI_ge (by omega) (by omega) : ¬ nI 16 ≤ nI i)
        · refine lv_aload_n hx hb dX0_known_323 rfl (lv_at hl 2 rfl) ?_
          refine lv_iload hx hb dX0_known_324 (lv_at hl 0 rfl) ?_
          refine cs_i (W.runV (As := [.int (nI i)]) (rest := []) ⟨hx, hb, hml, hown, hts⟩ (mt_out l D _ cB cI 0 3 x1 x1k x1b x1o i (sd_run true kn_k1 kn_b1 kn_z) rfl rfl hi) (cwV 1 hts (lw_V q320 q321 q322 q14 q323) rfl rfl rfl (by decide +kernel) ⟨Nat.le_of_ble_eq_true rfl, Nat.le_of_ble_eq_true rfl⟩) ⟨pu_blind, va_recv hK hP (ci := 0) (q0 := 0) rfl rfl, pu_at hP hK⟩ rfl rfl hl.1 rfl (lv_room (Nat.le_of_ble_eq_true rfl)) dX0_known_326 ⟨Nat.le_of_ble_eq_true rfl, Nat.le_of_ble_eq_true rfl⟩) ?_
          refine lv_aload_n hx hb dX0_known_329 rfl (lv_at hl 1 rfl) ?_
          refine lv_iload hx hb dX0_known_330 (lv_at hl 0 rfl) ?_
          refine va_iald hx hb hK hP 4 1 rfl rfl (vp_in_nI hi (by decide)) dX0_known_332 ?_
          refine tp_i (y := kn_v1 i) (by rw [nI_clamp (by omega)]) ?_
          refine lv_icmp_eq (tgt := 338) hx hb dX0_known_333 (by decide) (fun c1 => ?_) (fun c1 => ?_)
          · refine lv_iinc (v := nI (i + 1)) (lv' := [(4, .int (nI (i + 1))), (3, .ref v1), (2, .ref x1)]) hx hb dX0_known_338 hl (k := 0) rfl (nI_inc i) (by decide) rfl (fun ls hl => ?_)
            refine lv_goto (tgt := 316) hx hb dX0_known_341 (by decide) ?_
            exact ih ls (lv_sub hl [0, 1, 2] rfl)
          · exact absurd (kn_1 kn_z i hi) c1
      · refine lv_iload hx hb dX0_known_316 (lv_at hl 0 rfl) ?_
        refine lv_bipush (v := 16) hx hb dX0_known_318 (by decide) ?_
        refine lv_icmp_ge (tgt := 344) hx hb dX0_known_320 (by decide) (fun c0 => ?_) (fun c0 => ?_)
        · have hP := hP.sub (ws' := []) [] rfl
          have hD := hD.sub (ws' := []) [] (by decide) rfl
          refine va_new (ci := 0) (fs := [.null, .null, .null]) (C := RX1) (T := TX1) (N := 3) hx hb hts in_X1 tyX1 tyX1_ok hown (hts _ q288) (hts _ q33) (hts _ q14) hK hP hD hS hA rfl (fun j hj => by rcases (show j = 0 ∨ j = 1 ∨ j = 2 by omega) with rfl | rfl | rfl <;> rfl) (Nat.le_of_ble_eq_true rfl) (Nat.le_of_ble_eq_true rfl) dX0_known_344 (fun x2 H hP hD hS => ?_)
          have hP : va_P D sCl [(x2, .inr (0, [.null, .null, .null]))] H := hP
          have hD : va_D A [(x2, .inr (0, [.null, .null, .null]))] := hD
          refine W.widen (k := 21) (n := 305) (Nat.le_of_ble_eq_true rfl) (Nat.le_of_ble_eq_true rfl) ?_
          refine lv_dup hx hb dX0_known_347 rfl ?_
          have hPc := hP.sub (ws' := [(x2, .inr (0, [.null, .null, .null]))]) [0] rfl
          have hDc := hD.sub (ws' := [(x2, .inr (0, [.null, .null, .null]))]) [0] (by decide) rfl
          have hFc := va_free (wc := [(x2, .inr (0, [.null, .null, .null]))]) hD hS hA [0] rfl
          refine va_callv (va_runI (As := []) (rest := [.ref x2]) ⟨hx, hb, hml, hown, hts⟩ (mt_sd l D cB cI x2 _ .null .null .null) (cwI 0 hts (lw_meth q291) rfl rfl rfl (hts _ q14) (hts _ q289) (hts _ q290) rfl (by decide +kernel) ⟨Nat.le_of_ble_eq_true rfl, Nat.le_of_ble_eq_true rfl⟩) ⟨px_blind, px_at hPc hK hDc⟩ rfl rfl hl.1 rfl (lv_room (Nat.le_of_ble_eq_true rfl)) dX0_known_348 ⟨Nat.le_of_ble_eq_true rfl, Nat.le_of_ble_eq_true rfl⟩) hS (fun q _ h => hFc q h) hFc (fun uu t H locs ht hvm hw hB hz1 hk1 hS => ?_)
          obtain ⟨x2k, x2b, x2o⟩ := uu
          obtain ⟨hP1, hD1⟩ := hB
          rw [ht] at hP1
          obtain ⟨hP, hD⟩ := va_join (wr := []) (w1 := [(x2, .inr (0, [.ref x2k, .ref x2b, .ref x2o])), (x2k, .inl (cB, 32, .inl kn_z)), (x2b, .inl (cB, 16, .inl kn_z)), (x2o, .inl (cB, 16, .inl kn_z))]) hP hD [0] [] rfl rfl (by decide) (by decide) hk1 hFc hP1 hD1
          have hP := hP.sub (ws' := [(x2, .inr (0, [.ref x2k, .ref x2b, .ref x2o])), (x2k, .inl (cB, 32, .inl kn_z)), (x2b, .inl (cB, 16, .inl kn_z)), (x2o, .inl (cB, 16, .inl kn_z))]) [0, 1, 2, 3] rfl
          have hD := hD.sub (ws' := [(x2, .inr (0, [.ref x2k, .ref x2b, .ref x2o])), (x2k, .inl (cB, 32, .inl kn_z)), (x2b, .inl (cB, 16, .inl kn_z)), (x2o, .inl (cB, 16, .inl kn_z))]) [0, 1, 2, 3] (by decide) rfl
          refine W.widen (k := 24) (n := 369) (Nat.le_of_ble_eq_true rfl) (Nat.le_of_ble_eq_true rfl) ?_
          refine lv_astore (lv' := [(4, .ref x2), (3, .ref v1), (2, .ref x1)]) hx hb dX0_known_351 hl (by decide) rfl (fun ls hl => ?_)
          refine lv_aload hx hb dX0_known_353 (lv_at hl 0 rfl) ?_
          refine lv_iconst (v := 0) hx hb dX0_known_355 (by decide) ?_
          refine lv_ldc (v := 1191593992) hx hb hown (hts _ q331) dX0_known_356 ?_
          refine lv_ldc (v := 1374034920) hx hb hown (hts _ q332) dX0_known_358 ?_
          refine lv_ldc (v := 1567932339) hx hb hown (hts _ q333) dX0_known_360 ?_
          refine lv_ldc (v := (-40541819)) hx hb hown (hts _ q334) dX0_known_362 ?_
          have hPc := hP.sub (ws' := [(x2, .inr (0, [.ref x2k, .ref x2b, .ref x2o])), (x2k, .inl (cB, 32, .inl kn_z))]) [0, 1] rfl
          have hDc := hD.sub (ws' := [(x2, .inr (0, [.ref x2k, .ref x2b, .ref x2o])), (x2k, .inl (cB, 32, .inl kn_z))]) [0, 1] (by decide) rfl
          have hFc := va_free (wc := [(x2, .inr (0, [.ref x2k, .ref x2b, .ref x2o])), (x2k, .inl (cB, 32, .inl kn_z))]) hD hS hA [0, 1] rfl
          refine va_callv (va_runV (As := [.int (nI 0), .int 1191593992, .int 1374034920, .int 1567932339, .int (-40541819)]) (rest := []) ⟨hx, hb, hml, hown, hts⟩ (mt_key l D cB cI x2 x2k x2b x2o _ 0 kn_z 1191593992 1374034920 1567932339 (-40541819) (by decide)) (cwV 5 hts (lw_V q306 q307 q308 q14 q309) rfl rfl rfl (by decide +kernel) ⟨Nat.le_of_ble_eq_true rfl, Nat.le_of_ble_eq_true rfl⟩) ⟨px_blind, va_recv hK hP (ci := 0) (q0 := 0) rfl rfl, px_at hPc hK hDc⟩ rfl rfl hl.1 rfl (lv_room (Nat.le_of_ble_eq_true rfl)) dX0_known_364 ⟨Nat.le_of_ble_eq_true rfl, Nat.le_of_ble_eq_true rfl⟩) hS (fun q _ h => hFc q h) hFc (fun u_ t H locs ht hvm hw hB hz1 hk1 hS => ?_)
          obtain ⟨hP1, hD1⟩ := hB
          rw [ht] at hP1
          obtain ⟨hP, hD⟩ := va_join (wr := [(x2b, .inl (cB, 16, .inl kn_z)), (x2o, .inl (cB, 16, .inl kn_z))]) (w1 := [(x2, .inr (0, [.ref x2k, .ref x2b, .ref x2o])), (x2k, .inl (cB, 32, .inl (sd_4w kn_z 0 1191593992 1374034920 1567932339 (-40541819))))]) hP hD [0, 1] [2, 3] rfl rfl (by decide) (by decide) hk1 hFc hP1 hD1
          have hP := hP.sub (ws' := [(x2, .inr (0, [.ref x2k, .ref x2b, .ref x2o])), (x2k, .inl (cB, 32, .inl (sd_4w kn_z 0 1191593992 1374034920 1567932339 (-40541819)))), (x2b, .inl (cB, 16, .inl kn_z)), (x2o, .inl (cB, 16, .inl kn_z))]) [2, 3, 0, 1] rfl
          have hD := hD.sub (ws' := [(x2, .inr (0, [.ref x2k, .ref x2b, .ref x2o])), (x2k, .inl (cB, 32, .inl (sd_4w kn_z 0 1191593992 1374034920 1567932339 (-40541819)))), (x2b, .inl (cB, 16, .inl kn_z)), (x2o, .inl (cB, 16, .inl kn_z))]) [2, 3, 0, 1] (by decide) rfl
          refine lv_aload hx hb dX0_known_367 (lv_at hl 0 rfl) ?_
          refine lv_iconst (v := 1) hx hb dX0_known_369 (by decide) ?_
          refine lv_iconst (v := 0) hx hb dX0_known_370 (by decide) ?_
          refine lv_iconst (v := 0) hx hb dX0_known_371 (by decide) ?_
          refine lv_iconst (v := 0) hx hb dX0_known_372 (by decide) ?_
          refine lv_iconst (v := 0) hx hb dX0_known_373 (by decide) ?_
          have hPc := hP.sub (ws' := [(x2, .inr (0, [.ref x2k, .ref x2b, .ref x2o])), (x2k, .inl (cB, 32, .inl (sd_4w kn_z 0 1191593992 1374034920 1567932339 (-40541819))))]) [0, 1] rfl
          have hDc := hD.sub (ws' := [(x2, .inr (0, [.ref x2k, .ref x2b, .ref x2o])), (x2k, .inl (cB, 32, .inl (sd_4w kn_z 0 1191593992 1374034920 1567932339 (-40541819))))]) [0, 1] (by decide) rfl
          have hFc := va_free (wc := [(x2, .inr (0, [.ref x2k, .ref x2b, .ref x2o])), (x2k, .inl (cB, 32, .inl (sd_4w kn_z 0 1191593992 1374034920 1567932339 (-40541819))))]) hD hS hA [0, 1] rfl
          refine va_callv (va_runV (As := [.int (nI 1), .int 0, .int 0, .int 0, .int 0]) (rest := []) ⟨hx, hb, hml, hown, hts⟩ (mt_key l D cB cI x2 x2k x2b x2o _ 1 (sd_4w kn_z 0 1191593992 1374034920 1567932339 (-40541819)) 0 0 0 0 (by decide)) (cwV 5 hts (lw_V q306 q307 q308 q14 q309) rfl rfl rfl (by decide +kernel) ⟨Nat.le_of_ble_eq_true rfl, Nat.le_of_ble_eq_true rfl⟩) ⟨px_blind, va_recv hK hP (ci := 0) (q0 := 0) rfl rfl, px_at hPc hK hDc⟩ rfl rfl hl.1 rfl (lv_room (Nat.le_of_ble_eq_true rfl)) dX0_known_374 ⟨Nat.le_of_ble_eq_true rfl, Nat.le_of_ble_eq_true rfl⟩) hS (fun q _ h => hFc q h) hFc (fun u_ t H locs ht hvm hw hB hz1 hk1 hS => ?_)
          obtain ⟨hP1, hD1⟩ := hB
          rw [ht] at hP1
          obtain ⟨hP, hD⟩ := va_join (wr := [(x2b, .inl (cB, 16, .inl kn_z)), (x2o, .inl (cB, 16, .inl kn_z))]) (w1 := [(x2, .inr (0, [.ref x2k, .ref x2b, .ref x2o])), (x2k, .inl (cB, 32, .inl (sd_4w (sd_4w kn_z 0 1191593992 1374034920 1567932339 (-40541819)) 16 0 0 0 0)))]) hP hD [0, 1] [2, 3] rfl rfl (by decide) (by decide) hk1 hFc hP1 hD1
          have hP := hP.sub (ws' := [(x2, .inr (0, [.ref x2k, .ref x2b, .ref x2o])), (x2k, .inl (cB, 32, .inl (sd_4w (sd_4w kn_z 0 1191593992 1374034920 1567932339 (-40541819)) 16 0 0 0 0))), (x2b, .inl (cB, 16, .inl kn_z)), (x2o, .inl (cB, 16, .inl kn_z))]) [2, 3, 0, 1] rfl
          have hD := hD.sub (ws' := [(x2, .inr (0, [.ref x2k, .ref x2b, .ref x2o])), (x2k, .inl (cB, 32, .inl (sd_4w (sd_4w kn_z 0 1191593992 1374034920 1567932339 (-40541819)) 16 0 0 0 0))), (x2b, .inl (cB, 16, .inl kn_z)), (x2o, .inl (cB, 16, .inl kn_z))]) [2, 3, 0, 1] (by decide) rfl
          refine lv_aload hx hb dX0_known_377 (lv_at hl 0 rfl) ?_
          refine lv_ldc (v := (-2086471518)) hx hb hown (hts _ q335) dX0_known_379 ?_
          refine lv_ldc (v := (-2006704199)) hx hb hown (hts _ q336) dX0_known_381 ?_
          refine lv_ldc (v := (-1528191540)) hx hb hown (hts _ q337) dX0_known_383 ?_
          refine lv_ldc (v := 789781629) hx hb hown (hts _ q338) dX0_known_385 ?_
          have hPc := hP.sub (ws' := [(x2, .inr (0, [.ref x2k, .ref x2b, .ref x2o])), (x2b, .inl (cB, 16, .inl kn_z))]) [0, 2] rfl
          have hDc := hD.sub (ws' := [(x2, .inr (0, [.ref x2k, .ref x2b, .ref x2o])), (x2b, .inl (cB, 16, .inl kn_z))]) [0, 2] (by decide) rfl
          have hFc := va_free (wc := [(x2, .inr (0, [.ref x2k, .ref x2b, .ref x2o])), (x2b, .inl (cB, 16, .inl kn_z))]) hD hS hA [0, 2] rfl
          refine va_callv (va_runV (As := [.int (-2086471518), .int (-2006704199), .int (-1528191540), .int 789781629]) (rest := []) ⟨hx, hb, hml, hown, hts⟩ (mt_blk l D cB cI x2 x2k x2b x2o _ kn_z (-2086471518) (-2006704199) (-1528191540) 789781629) (cwV 4 hts (lw_V q313 q314 q315 q14 q316) rfl rfl rfl (by decide +kernel) ⟨Nat.le_of_ble_eq_true rfl, Nat.le_of_ble_eq_true rfl⟩) ⟨px_blind, va_recv hK hP (ci := 0) (q0 := 0) rfl rfl, px_at hPc hK hDc⟩ rfl rfl hl.1 rfl (lv_room (Nat.le_of_ble_eq_true rfl)) dX0_known_387 ⟨Nat.le_of_ble_eq_true rfl, Nat.le_of_ble_eq_true rfl⟩) hS (fun q _ h => hFc q h) hFc (fun u_ t H locs ht hvm hw hB hz1 hk1 hS => ?_)
          obtain ⟨hP1, hD1⟩ := hB
          rw [ht] at hP1
          obtain ⟨hP, hD⟩ := va_join (wr := [(x2k, .inl (cB, 32, .inl (sd_4w (sd_4w kn_z 0 1191593992 1374034920 1567932339 (-40541819)) 16 0 0 0 0))), (x2o, .inl (cB, 16, .inl kn_z))]) (w1 := [(x2, .inr (0, [.ref x2k, .ref x2b, .ref x2o])), (x2b, .inl (cB, 16, .inl (sd_4w kn_z 0 (-2086471518) (-2006704199) (-1528191540) 789781629)))]) hP hD [0, 2] [1, 3] rfl rfl (by decide) (by decide) hk1 hFc hP1 hD1
          have hP := hP.sub (ws' := [(x2, .inr (0, [.ref x2k, .ref x2b, .ref x2o])), (x2k, .inl (cB, 32, .inl (sd_4w (sd_4w kn_z 0 1191593992 1374034920 1567932339 (-40541819)) 16 0 0 0 0))), (x2b, .inl (cB, 16, .inl (sd_4w kn_z 0 (-2086471518) (-2006704199) (-1528191540) 789781629))), (x2o, .inl (cB, 16, .inl kn_z))]) [2, 0, 3, 1] rfl
          have hD := hD.sub (ws' := [(x2, .inr (0, [.ref x2k, .ref x2b, .ref x2o])), (x2k, .inl (cB, 32, .inl (sd_4w (sd_4w kn_z 0 1191593992 1374034920 1567932339 (-40541819)) 16 0 0 0 0))), (x2b, .inl (cB, 16, .inl (sd_4w kn_z 0 (-2086471518) (-2006704199) (-1528191540) 789781629))), (x2o, .inl (cB, 16, .inl kn_z))]) [2, 0, 3, 1] (by decide) rfl
          have hP : va_P D sCl [(x2, .inr (0, [.ref x2k, .ref x2b, .ref x2o])), (x2k, .inl (cB, 32, .inl kn_k2)), (x2b, .inl (cB, 16, .inl kn_b2)), (x2o, .inl (cB, 16, .inl kn_z))] H := hP
          have hD : va_D A [(x2, .inr (0, [.ref x2k, .ref x2b, .ref x2o])), (x2k, .inl (cB, 32, .inl kn_k2)), (x2b, .inl (cB, 16, .inl kn_b2)), (x2o, .inl (cB, 16, .inl kn_z))] := hD
          refine lv_aload hx hb dX0_known_390 (lv_at hl 0 rfl) ?_
          refine lv_iconst (v := 0) hx hb dX0_known_392 (by decide) ?_
          have hPc := hP.sub (ws' := [(x2, .inr (0, [.ref x2k, .ref x2b, .ref x2o])), (x2k, .inl (cB, 32, .inl kn_k2)), (x2b, .inl (cB, 16, .inl kn_b2)), (x2o, .inl (cB, 16, .inl kn_z))]) [0, 1, 2, 3] rfl
          have hDc := hD.sub (ws' := [(x2, .inr (0, [.ref x2k, .ref x2b, .ref x2o])), (x2k, .inl (cB, 32, .inl kn_k2)), (x2b, .inl (cB, 16, .inl kn_b2)), (x2o, .inl (cB, 16, .inl kn_z))]) [0, 1, 2, 3] (by decide) rfl
          have hFc := va_free (wc := [(x2, .inr (0, [.ref x2k, .ref x2b, .ref x2o])), (x2k, .inl (cB, 32, .inl kn_k2)), (x2b, .inl (cB, 16, .inl kn_b2)), (x2o, .inl (cB, 16, .inl kn_z))]) hD hS hA [0, 1, 2, 3] rfl
          have hTc := tb_here hT hS hFc
          refine va_callv (va_runV (As := [.int 0]) (rest := []) ⟨hx, hb, hml, hown, hts⟩ (mt_lock l D cB cI x2 x2k x2b x2o _ kn_k2 kn_b2 kn_z 0) (cwV 1 hts (lw_V q26 q27 q28 q14 q29) rfl rfl rfl (by decide +kernel) ⟨Nat.le_of_ble_eq_true rfl, Nat.le_of_ble_eq_true rfl⟩) ⟨pz_blind, va_recv hK hP (ci := 0) (q0 := 0) rfl rfl, pz_at hPc hK hDc hTc hI⟩ rfl rfl hl.1 rfl (lv_room (Nat.le_of_ble_eq_true rfl)) dX0_known_393 ⟨Nat.le_of_ble_eq_true rfl, Nat.le_of_ble_eq_true rfl⟩) hS (fun q _ h => hFc q h) hFc (fun u_ t H locs ht hvm hw hB hz1 hk1 hS => ?_)
          obtain ⟨hP1, hD1⟩ := hB
          rw [ht] at hP1
          obtain ⟨hP, hD⟩ := va_join (wr := []) (w1 := [(x2, .inr (0, [.ref x2k, .ref x2b, .ref x2o])), (x2k, .inl (cB, 32, .inl kn_k2)), (x2b, .inl (cB, 16, .inl kn_b2)), (x2o, .inl (cB, 16, .inl (sd_run true kn_k2 kn_b2 kn_z)))]) hP hD [0, 1, 2, 3] [] rfl rfl (by decide) (by decide) hk1 hFc hP1 hD1
          have hP := hP.sub (ws' := [(x2, .inr (0, [.ref x2k, .ref x2b, .ref x2o])), (x2k, .inl (cB, 32, .inl kn_k2)), (x2b, .inl (cB, 16, .inl kn_b2)), (x2o, .inl (cB, 16, .inl (sd_run true kn_k2 kn_b2 kn_z)))]) [0, 1, 2, 3] rfl
          have hD := hD.sub (ws' := [(x2, .inr (0, [.ref x2k, .ref x2b, .ref x2o])), (x2k, .inl (cB, 32, .inl kn_k2)), (x2b, .inl (cB, 16, .inl kn_b2)), (x2o, .inl (cB, 16, .inl (sd_run true kn_k2 kn_b2 kn_z)))]) [0, 1, 2, 3] (by decide) rfl
          refine W.widen (k := 29) (n := 437) (Nat.le_of_ble_eq_true rfl) (Nat.le_of_ble_eq_true rfl) ?_
          refine lv_bipush (v := 16) hx hb dX0_known_396 (by decide) ?_
          refine va_newa (atype := .int) (ty := .int) (a0 := (16, .inl kn_z)) hx hb (hts _ q222) rfl hK hP hD hS hA (fun _ => rfl) (by decide) (by decide) (Nat.le_of_ble_eq_true rfl) (Nat.le_of_ble_eq_true rfl) (Nat.le_of_ble_eq_true rfl) dX0_known_398 (fun v2 cA H hK2 hP hD hS => ?_)
          have hq := ty_sameI hK2
          rw [hq] at hP hD
          have hP : va_P D sCl [(x2, .inr (0, [.ref x2k, .ref x2b, .ref x2o])), (x2k, .inl (cB, 32, .inl kn_k2)), (x2b, .inl (cB, 16, .inl kn_b2)), (x2o, .inl (cB, 16, .inl (sd_run true kn_k2 kn_b2 kn_z))), (v2, .inl (cI, 16, .inl kn_z))] H := hP
          have hD : va_D A [(x2, .inr (0, [.ref x2k, .ref x2b, .ref x2o])), (x2k, .inl (cB, 32, .inl kn_k2)), (x2b, .inl (cB, 16, .inl kn_b2)), (x2o, .inl (cB, 16, .inl (sd_run true kn_k2 kn_b2 kn_z))), (v2, .inl (cI, 16, .inl kn_z))] := hD
          refine W.widen (k := 30) (n := 453) (Nat.le_of_ble_eq_true rfl) (Nat.le_of_ble_eq_true rfl) ?_
          refine lv_dup hx hb dX0_known_400 rfl ?_
          refine lv_iconst (v := 0) hx hb dX0_known_401 (by decide) ?_
          refine lv_sipush (v := 238) hx hb dX0_known_402 (by decide) ?_
          refine va_iast hx hb hK hP hD hS 4 1 rfl rfl (show vp_in (nI 0) 16 from vp_in_nI (by decide) (by decide)) dX0_known_405 (fun H locs hP hD hS => ?_)
          have hP : va_P D sCl [(x2, .inr (0, [.ref x2k, .ref x2b, .ref x2o])), (x2k, .inl (cB, 32, .inl kn_k2)), (x2b, .inl (cB, 16, .inl kn_b2)), (x2o, .inl (cB, 16, .inl (sd_run true kn_k2 kn_b2 kn_z))), (v2, .inl (cI, 16, .inl (upd kn_z 0 238)))] H := hP
          have hD : va_D A [(x2, .inr (0, [.ref x2k, .ref x2b, .ref x2o])), (x2k, .inl (cB, 32, .inl kn_k2)), (x2b, .inl (cB, 16, .inl kn_b2)), (x2o, .inl (cB, 16, .inl (sd_run true kn_k2 kn_b2 kn_z))), (v2, .inl (cI, 16, .inl (upd kn_z 0 238)))] := hD
          refine lv_dup hx hb dX0_known_406 rfl ?_
          refine lv_iconst (v := 1) hx hb dX0_known_407 (by decide) ?_
          refine lv_bipush (v := 84) hx hb dX0_known_408 (by decide) ?_
          refine va_iast hx hb hK hP hD hS 4 1 rfl rfl (show vp_in (nI 1) 16 from vp_in_nI (by decide) (by decide)) dX0_known_410 (fun H locs hP hD hS => ?_)
          have hP : va_P D sCl [(x2, .inr (0, [.ref x2k, .ref x2b, .ref x2o])), (x2k, .inl (cB, 32, .inl kn_k2)), (x2b, .inl (cB, 16, .inl kn_b2)), (x2o, .inl (cB, 16, .inl (sd_run true kn_k2 kn_b2 kn_z))), (v2, .inl (cI, 16, .inl (upd (upd kn_z 0 238) 1 84)))] H := hP
          have hD : va_D A [(x2, .inr (0, [.ref x2k, .ref x2b, .ref x2o])), (x2k, .inl (cB, 32, .inl kn_k2)), (x2b, .inl (cB, 16, .inl kn_b2)), (x2o, .inl (cB, 16, .inl (sd_run true kn_k2 kn_b2 kn_z))), (v2, .inl (cI, 16, .inl (upd (upd kn_z 0 238) 1 84)))] := hD
          refine lv_dup hx hb dX0_known_411 rfl ?_
          refine lv_iconst (v := 2) hx hb dX0_known_412 (by decide) ?_
          refine lv_sipush (v := 209) hx hb dX0_known_413 (by decide) ?_
          refine va_iast hx hb hK hP hD hS 4 1 rfl rfl (show vp_in (nI 2) 16 from vp_in_nI (by decide) (by decide)) dX0_known_416 (fun H locs hP hD hS => ?_)
          have hP : va_P D sCl [(x2, .inr (0, [.ref x2k, .ref x2b, .ref x2o])), (x2k, .inl (cB, 32, .inl kn_k2)), (x2b, .inl (cB, 16, .inl kn_b2)), (x2o, .inl (cB, 16, .inl (sd_run true kn_k2 kn_b2 kn_z))), (v2, .inl (cI, 16, .inl (upd (upd (upd kn_z 0 238) 1 84) 2 209)))] H := hP
          have hD : va_D A [(x2, .inr (0, [.ref x2k, .ref x2b, .ref x2o])), (x2k, .inl (cB, 32, .inl kn_k2)), (x2b, .inl (cB, 16, .inl kn_b2)), (x2o, .inl (cB, 16, .inl (sd_run true kn_k2 kn_b2 kn_z))), (v2, .inl (cI, 16, .inl (upd (upd (upd kn_z 0 238) 1 84) 2 209)))] := hD
          refine lv_dup hx hb dX0_known_417 rfl ?_
          refine lv_iconst (v := 3) hx hb dX0_known_418 (by decide) ?_
          refine lv_bipush (v := 62) hx hb dX0_known_419 (by decide) ?_
          refine va_iast hx hb hK hP hD hS 4 1 rfl rfl (show vp_in (nI 3) 16 from vp_in_nI (by decide) (by decide)) dX0_known_421 (fun H locs hP hD hS => ?_)
          have hP : va_P D sCl [(x2, .inr (0, [.ref x2k, .ref x2b, .ref x2o])), (x2k, .inl (cB, 32, .inl kn_k2)), (x2b, .inl (cB, 16, .inl kn_b2)), (x2o, .inl (cB, 16, .inl (sd_run true kn_k2 kn_b2 kn_z))), (v2, .inl (cI, 16, .inl (upd (upd (upd (upd kn_z 0 238) 1 84) 2 209) 3 62)))] H := hP
          have hD : va_D A [(x2, .inr (0, [.ref x2k, .ref x2b, .ref x2o])), (x2k, .inl (cB, 32, .inl kn_k2)), (x2b, .inl (cB, 16, .inl kn_b2)), (x2o, .inl (cB, 16, .inl (sd_run true kn_k2 kn_b2 kn_z))), (v2, .inl (cI, 16, .inl (upd (upd (upd (upd kn_z 0 238) 1 84) 2 209) 3 62)))] := hD
          refine lv_dup hx hb dX0_known_422 rfl ?_
          refine lv_iconst (v := 4) hx hb dX0_known_423 (by decide) ?_
          refine lv_sipush (v := 188) hx hb dX0_known_424 (by decide) ?_
          refine va_iast hx hb hK hP hD hS 4 1 rfl rfl (show vp_in (nI 4) 16 from vp_in_nI (by decide) (by decide)) dX0_known_427 (fun H locs hP hD hS => ?_)
          have hP : va_P D sCl [(x2, .inr (0, [.ref x2k, .ref x2b, .ref x2o])), (x2k, .inl (cB, 32, .inl kn_k2)), (x2b, .inl (cB, 16, .inl kn_b2)), (x2o, .inl (cB, 16, .inl (sd_run true kn_k2 kn_b2 kn_z))), (v2, .inl (cI, 16, .inl (upd (upd (upd (upd (upd kn_z 0 238) 1 84) 2 209) 3 62) 4 188)))] H := hP
          have hD : va_D A [(x2, .inr (0, [.ref x2k, .ref x2b, .ref x2o])), (x2k, .inl (cB, 32, .inl kn_k2)), (x2b, .inl (cB, 16, .inl kn_b2)), (x2o, .inl (cB, 16, .inl (sd_run true kn_k2 kn_b2 kn_z))), (v2, .inl (cI, 16, .inl (upd (upd (upd (upd (upd kn_z 0 238) 1 84) 2 209) 3 62) 4 188)))] := hD
          refine lv_dup hx hb dX0_known_428 rfl ?_
          refine lv_iconst (v := 5) hx hb dX0_known_429 (by decide) ?_
          refine lv_sipush (v := 174) hx hb dX0_known_430 (by decide) ?_
          refine va_iast hx hb hK hP hD hS 4 1 rfl rfl (show vp_in (nI 5) 16 from vp_in_nI (by decide) (by decide)) dX0_known_433 (fun H locs hP hD hS => ?_)
          have hP : va_P D sCl [(x2, .inr (0, [.ref x2k, .ref x2b, .ref x2o])), (x2k, .inl (cB, 32, .inl kn_k2)), (x2b, .inl (cB, 16, .inl kn_b2)), (x2o, .inl (cB, 16, .inl (sd_run true kn_k2 kn_b2 kn_z))), (v2, .inl (cI, 16, .inl (upd (upd (upd (upd (upd (upd kn_z 0 238) 1 84) 2 209) 3 62) 4 188) 5 174)))] H := hP
          have hD : va_D A [(x2, .inr (0, [.ref x2k, .ref x2b, .ref x2o])), (x2k, .inl (cB, 32, .inl kn_k2)), (x2b, .inl (cB, 16, .inl kn_b2)), (x2o, .inl (cB, 16, .inl (sd_run true kn_k2 kn_b2 kn_z))), (v2, .inl (cI, 16, .inl (upd (upd (upd (upd (upd (upd kn_z 0 238) 1 84) 2 209) 3 62) 4 188) 5 174)))] := hD
          refine lv_dup hx hb dX0_known_434 rfl ?_
          refine lv_bipush (v := 6) hx hb dX0_known_435 (by decide) ?_
          refine lv_bipush (v := 112) hx hb dX0_known_437 (by decide) ?_
          refine va_iast hx hb hK hP hD hS 4 1 rfl rfl (show vp_in (nI 6) 16 from vp_in_nI (by decide) (by decide)) dX0_known_439 (fun H locs hP hD hS => ?_)
          have hP : va_P D sCl [(x2, .inr (0, [.ref x2k, .ref x2b, .ref x2o])), (x2k, .inl (cB, 32, .inl kn_k2)), (x2b, .inl (cB, 16, .inl kn_b2)), (x2o, .inl (cB, 16, .inl (sd_run true kn_k2 kn_b2 kn_z))), (v2, .inl (cI, 16, .inl (upd (upd (upd (upd (upd (upd (upd kn_z 0 238) 1 84) 2 209) 3 62) 4 188) 5 174) 6 112)))] H := hP
          have hD : va_D A [(x2, .inr (0, [.ref x2k, .ref x2b, .ref x2o])), (x2k, .inl (cB, 32, .inl kn_k2)), (x2b, .inl (cB, 16, .inl kn_b2)), (x2o, .inl (cB, 16, .inl (sd_run true kn_k2 kn_b2 kn_z))), (v2, .inl (cI, 16, .inl (upd (upd (upd (upd (upd (upd (upd kn_z 0 238) 1 84) 2 209) 3 62) 4 188) 5 174) 6 112)))] := hD
          refine lv_dup hx hb dX0_known_440 rfl ?_
          refine lv_bipush (v := 7) hx hb dX0_known_441 (by decide) ?_
          refine lv_bipush (v := 109) hx hb dX0_known_443 (by decide) ?_
          refine va_iast hx hb hK hP hD hS 4 1 rfl rfl (show vp_in (nI 7) 16 from vp_in_nI (by decide) (by decide)) dX0_known_445 (fun H locs hP hD hS => ?_)
          have hP : va_P D sCl [(x2, .inr (0, [.ref x2k, .ref x2b, .ref x2o])), (x2k, .inl (cB, 32, .inl kn_k2)), (x2b, .inl (cB, 16, .inl kn_b2)), (x2o, .inl (cB, 16, .inl (sd_run true kn_k2 kn_b2 kn_z))), (v2, .inl (cI, 16, .inl (upd (upd (upd (upd (upd (upd (upd (upd kn_z 0 238) 1 84) 2 209) 3 62) 4 188) 5 174) 6 112) 7 109)))] H := hP
          have hD : va_D A [(x2, .inr (0, [.ref x2k, .ref x2b, .ref x2o])), (x2k, .inl (cB, 32, .inl kn_k2)), (x2b, .inl (cB, 16, .inl kn_b2)), (x2o, .inl (cB, 16, .inl (sd_run true kn_k2 kn_b2 kn_z))), (v2, .inl (cI, 16, .inl (upd (upd (upd (upd (upd (upd (upd (upd kn_z 0 238) 1 84) 2 209) 3 62) 4 188) 5 174) 6 112) 7 109)))] := hD
          refine lv_dup hx hb dX0_known_446 rfl ?_
          refine lv_bipush (v := 8) hx hb dX0_known_447 (by decide) ?_
          refine lv_bipush (v := 34) hx hb dX0_known_449 (by decide) ?_
          refine va_iast hx hb hK hP hD hS 4 1 rfl rfl (show vp_in (nI 8) 16 from vp_in_nI (by decide) (by decide)) dX0_known_451 (fun H locs hP hD hS => ?_)
          have hP : va_P D sCl [(x2, .inr (0, [.ref x2k, .ref x2b, .ref x2o])), (x2k, .inl (cB, 32, .inl kn_k2)), (x2b, .inl (cB, 16, .inl kn_b2)), (x2o, .inl (cB, 16, .inl (sd_run true kn_k2 kn_b2 kn_z))), (v2, .inl (cI, 16, .inl (upd (upd (upd (upd (upd (upd (upd (upd (upd kn_z 0 238) 1 84) 2 209) 3 62) 4 188) 5 174) 6 112) 7 109) 8 34)))] H := hP
          have hD : va_D A [(x2, .inr (0, [.ref x2k, .ref x2b, .ref x2o])), (x2k, .inl (cB, 32, .inl kn_k2)), (x2b, .inl (cB, 16, .inl kn_b2)), (x2o, .inl (cB, 16, .inl (sd_run true kn_k2 kn_b2 kn_z))), (v2, .inl (cI, 16, .inl (upd (upd (upd (upd (upd (upd (upd (upd (upd kn_z 0 238) 1 84) 2 209) 3 62) 4 188) 5 174) 6 112) 7 109) 8 34)))] := hD
          refine lv_dup hx hb dX0_known_452 rfl ?_
          refine lv_bipush (v := 9) hx hb dX0_known_453 (by decide) ?_
          refine lv_bipush (v := 107) hx hb dX0_known_455 (by decide) ?_
          refine va_iast hx hb hK hP hD hS 4 1 rfl rfl (show vp_in (nI 9) 16 from vp_in_nI (by decide) (by decide)) dX0_known_457 (fun H locs hP hD hS => ?_)
          have hP : va_P D sCl [(x2, .inr (0, [.ref x2k, .ref x2b, .ref x2o])), (x2k, .inl (cB, 32, .inl kn_k2)), (x2b, .inl (cB, 16, .inl kn_b2)), (x2o, .inl (cB, 16, .inl (sd_run true kn_k2 kn_b2 kn_z))), (v2, .inl (cI, 16, .inl (upd (upd (upd (upd (upd (upd (upd (upd (upd (upd kn_z 0 238) 1 84) 2 209) 3 62) 4 188) 5 174) 6 112) 7 109) 8 34) 9 107)))] H := hP
          have hD : va_D A [(x2, .inr (0, [.ref x2k, .ref x2b, .ref x2o])), (x2k, .inl (cB, 32, .inl kn_k2)), (x2b, .inl (cB, 16, .inl kn_b2)), (x2o, .inl (cB, 16, .inl (sd_run true kn_k2 kn_b2 kn_z))), (v2, .inl (cI, 16, .inl (upd (upd (upd (upd (upd (upd (upd (upd (upd (upd kn_z 0 238) 1 84) 2 209) 3 62) 4 188) 5 174) 6 112) 7 109) 8 34) 9 107)))] := hD
          refine lv_dup hx hb dX0_known_458 rfl ?_
          refine lv_bipush (v := 10) hx hb dX0_known_459 (by decide) ?_
          refine lv_sipush (v := 195) hx hb dX0_known_461 (by decide) ?_
          refine va_iast hx hb hK hP hD hS 4 1 rfl rfl (show vp_in (nI 10) 16 from vp_in_nI (by decide) (by decide)) dX0_known_464 (fun H locs hP hD hS => ?_)
          have hP : va_P D sCl [(x2, .inr (0, [.ref x2k, .ref x2b, .ref x2o])), (x2k, .inl (cB, 32, .inl kn_k2)), (x2b, .inl (cB, 16, .inl kn_b2)), (x2o, .inl (cB, 16, .inl (sd_run true kn_k2 kn_b2 kn_z))), (v2, .inl (cI, 16, .inl (upd (upd (upd (upd (upd (upd (upd (upd (upd (upd (upd kn_z 0 238) 1 84) 2 209) 3 62) 4 188) 5 174) 6 112) 7 109) 8 34) 9 107) 10 195)))] H := hP
          have hD : va_D A [(x2, .inr (0, [.ref x2k, .ref x2b, .ref x2o])), (x2k, .inl (cB, 32, .inl kn_k2)), (x2b, .inl (cB, 16, .inl kn_b2)), (x2o, .inl (cB, 16, .inl (sd_run true kn_k2 kn_b2 kn_z))), (v2, .inl (cI, 16, .inl (upd (upd (upd (upd (upd (upd (upd (upd (upd (upd (upd kn_z 0 238) 1 84) 2 209) 3 62) 4 188) 5 174) 6 112) 7 109) 8 34) 9 107) 10 195)))] := hD
          refine lv_dup hx hb dX0_known_465 rfl ?_
          refine lv_bipush (v := 11) hx hb dX0_known_466 (by decide) ?_
          refine lv_bipush (v := 20) hx hb dX0_known_468 (by decide) ?_
          refine va_iast hx hb hK hP hD hS 4 1 rfl rfl (show vp_in (nI 11) 16 from vp_in_nI (by decide) (by decide)) dX0_known_470 (fun H locs hP hD hS => ?_)
          have hP : va_P D sCl [(x2, .inr (0, [.ref x2k, .ref x2b, .ref x2o])), (x2k, .inl (cB, 32, .inl kn_k2)), (x2b, .inl (cB, 16, .inl kn_b2)), (x2o, .inl (cB, 16, .inl (sd_run true kn_k2 kn_b2 kn_z))), (v2, .inl (cI, 16, .inl (upd (upd (upd (upd (upd (upd (upd (upd (upd (upd (upd (upd kn_z 0 238) 1 84) 2 209) 3 62) 4 188) 5 174) 6 112) 7 109) 8 34) 9 107) 10 195) 11 20)))] H := hP
          have hD : va_D A [(x2, .inr (0, [.ref x2k, .ref x2b, .ref x2o])), (x2k, .inl (cB, 32, .inl kn_k2)), (x2b, .inl (cB, 16, .inl kn_b2)), (x2o, .inl (cB, 16, .inl (sd_run true kn_k2 kn_b2 kn_z))), (v2, .inl (cI, 16, .inl (upd (upd (upd (upd (upd (upd (upd (upd (upd (upd (upd (upd kn_z 0 238) 1 84) 2 209) 3 62) 4 188) 5 174) 6 112) 7 109) 8 34) 9 107) 10 195) 11 20)))] := hD
          refine lv_dup hx hb dX0_known_471 rfl ?_
          refine lv_bipush (v := 12) hx hb dX0_known_472 (by decide) ?_
          refine lv_bipush (v := 44) hx hb dX0_known_474 (by decide) ?_
          refine va_iast hx hb hK hP hD hS 4 1 rfl rfl (show vp_in (nI 12) 16 from vp_in_nI (by decide) (by decide)) dX0_known_476 (fun H locs hP hD hS => ?_)
          have hP : va_P D sCl [(x2, .inr (0, [.ref x2k, .ref x2b, .ref x2o])), (x2k, .inl (cB, 32, .inl kn_k2)), (x2b, .inl (cB, 16, .inl kn_b2)), (x2o, .inl (cB, 16, .inl (sd_run true kn_k2 kn_b2 kn_z))), (v2, .inl (cI, 16, .inl (upd (upd (upd (upd (upd (upd (upd (upd (upd (upd (upd (upd (upd kn_z 0 238) 1 84) 2 209) 3 62) 4 188) 5 174) 6 112) 7 109) 8 34) 9 107) 10 195) 11 20) 12 44)))] H := hP
          have hD : va_D A [(x2, .inr (0, [.ref x2k, .ref x2b, .ref x2o])), (x2k, .inl (cB, 32, .inl kn_k2)), (x2b, .inl (cB, 16, .inl kn_b2)), (x2o, .inl (cB, 16, .inl (sd_run true kn_k2 kn_b2 kn_z))), (v2, .inl (cI, 16, .inl (upd (upd (upd (upd (upd (upd (upd (upd (upd (upd (upd (upd (upd kn_z 0 238) 1 84) 2 209) 3 62) 4 188) 5 174) 6 112) 7 109) 8 34) 9 107) 10 195) 11 20) 12 44)))] := hD
          refine lv_dup hx hb dX0_known_477 rfl ?_
          refine lv_bipush (v := 13) hx hb dX0_known_478 (by decide) ?_
          refine lv_sipush (v := 212) hx hb dX0_known_480 (by decide) ?_
          refine va_iast hx hb hK hP hD hS 4 1 rfl rfl (show vp_in (nI 13) 16 from vp_in_nI (by decide) (by decide)) dX0_known_483 (fun H locs hP hD hS => ?_)
          have hP : va_P D sCl [(x2, .inr (0, [.ref x2k, .ref x2b, .ref x2o])), (x2k, .inl (cB, 32, .inl kn_k2)), (x2b, .inl (cB, 16, .inl kn_b2)), (x2o, .inl (cB, 16, .inl (sd_run true kn_k2 kn_b2 kn_z))), (v2, .inl (cI, 16, .inl (upd (upd (upd (upd (upd (upd (upd (upd (upd (upd (upd (upd (upd (upd kn_z 0 238) 1 84) 2 209) 3 62) 4 188) 5 174) 6 112) 7 109) 8 34) 9 107) 10 195) 11 20) 12 44) 13 212)))] H := hP
          have hD : va_D A [(x2, .inr (0, [.ref x2k, .ref x2b, .ref x2o])), (x2k, .inl (cB, 32, .inl kn_k2)), (x2b, .inl (cB, 16, .inl kn_b2)), (x2o, .inl (cB, 16, .inl (sd_run true kn_k2 kn_b2 kn_z))), (v2, .inl (cI, 16, .inl (upd (upd (upd (upd (upd (upd (upd (upd (upd (upd (upd (upd (upd (upd kn_z 0 238) 1 84) 2 209) 3 62) 4 188) 5 174) 6 112) 7 109) 8 34) 9 107) 10 195) 11 20) 12 44) 13 212)))] := hD
          refine lv_dup hx hb dX0_known_484 rfl ?_
          refine lv_bipush (v := 14) hx hb dX0_known_485 (by decide) ?_
          refine lv_bipush (v := 13) hx hb dX0_known_487 (by decide) ?_
          refine va_iast hx hb hK hP hD hS 4 1 rfl rfl (show vp_in (nI 14) 16 from vp_in_nI (by decide) (by decide)) dX0_known_489 (fun H locs hP hD hS => ?_)
          have hP : va_P D sCl [(x2, .inr (0, [.ref x2k, .ref x2b, .ref x2o])), (x2k, .inl (cB, 32, .inl kn_k2)), (x2b, .inl (cB, 16, .inl kn_b2)), (x2o, .inl (cB, 16, .inl (sd_run true kn_k2 kn_b2 kn_z))), (v2, .inl (cI, 16, .inl (upd (upd (upd (upd (upd (upd (upd (upd (upd (upd (upd (upd (upd (upd (upd kn_z 0 238) 1 84) 2 209) 3 62) 4 188) 5 174) 6 112) 7 109) 8 34) 9 107) 10 195) 11 20) 12 44) 13 212) 14 13)))] H := hP
          have hD : va_D A [(x2, .inr (0, [.ref x2k, .ref x2b, .ref x2o])), (x2k, .inl (cB, 32, .inl kn_k2)), (x2b, .inl (cB, 16, .inl kn_b2)), (x2o, .inl (cB, 16, .inl (sd_run true kn_k2 kn_b2 kn_z))), (v2, .inl (cI, 16, .inl (upd (upd (upd (upd (upd (upd (upd (upd (upd (upd (upd (upd (upd (upd (upd kn_z 0 238) 1 84) 2 209) 3 62) 4 188) 5 174) 6 112) 7 109) 8 34) 9 107) 10 195) 11 20) 12 44) 13 212) 14 13)))] := hD
          refine lv_dup hx hb dX0_known_490 rfl ?_
          refine lv_bipush (v := 15) hx hb dX0_known_491 (by decide) ?_
          refine lv_bipush (v := 74) hx hb dX0_known_493 (by decide) ?_
          refine va_iast hx hb hK hP hD hS 4 1 rfl rfl (show vp_in (nI 15) 16 from vp_in_nI (by decide) (by decide)) dX0_known_495 (fun H locs hP hD hS => ?_)
          have hP : va_P D sCl [(x2, .inr (0, [.ref x2k, .ref x2b, .ref x2o])), (x2k, .inl (cB, 32, .inl kn_k2)), (x2b, .inl (cB, 16, .inl kn_b2)), (x2o, .inl (cB, 16, .inl (sd_run true kn_k2 kn_b2 kn_z))), (v2, .inl (cI, 16, .inl (upd (upd (upd (upd (upd (upd (upd (upd (upd (upd (upd (upd (upd (upd (upd (upd kn_z 0 238) 1 84) 2 209) 3 62) 4 188) 5 174) 6 112) 7 109) 8 34) 9 107) 10 195) 11 20) 12 44) 13 212) 14 13) 15 74)))] H := hP
          have hD : va_D A [(x2, .inr (0, [.ref x2k, .ref x2b, .ref x2o])), (x2k, .inl (cB, 32, .inl kn_k2)), (x2b, .inl (cB, 16, .inl kn_b2)), (x2o, .inl (cB, 16, .inl (sd_run true kn_k2 kn_b2 kn_z))), (v2, .inl (cI, 16, .inl (upd (upd (upd (upd (upd (upd (upd (upd (upd (upd (upd (upd (upd (upd (upd (upd kn_z 0 238) 1 84) 2 209) 3 62) 4 188) 5 174) 6 112) 7 109) 8 34) 9 107) 10 195) 11 20) 12 44) 13 212) 14 13) 15 74)))] := hD
          have hP : va_P D sCl [(x2, .inr (0, [.ref x2k, .ref x2b, .ref x2o])), (x2k, .inl (cB, 32, .inl kn_k2)), (x2b, .inl (cB, 16, .inl kn_b2)), (x2o, .inl (cB, 16, .inl (sd_run true kn_k2 kn_b2 kn_z))), (v2, .inl (cI, 16, .inl kn_v2))] H := hP
          have hD : va_D A [(x2, .inr (0, [.ref x2k, .ref x2b, .ref x2o])), (x2k, .inl (cB, 32, .inl kn_k2)), (x2b, .inl (cB, 16, .inl kn_b2)), (x2o, .inl (cB, 16, .inl (sd_run true kn_k2 kn_b2 kn_z))), (v2, .inl (cI, 16, .inl kn_v2))] := hD
          refine lv_astore (lv' := [(5, .ref v2), (4, .ref x2), (3, .ref v1), (2, .ref x1)]) hx hb dX0_known_496 hl (by decide) rfl (fun ls hl => ?_)
          refine lv_iconst (v := 0) hx hb dX0_known_498 (by decide) ?_
          refine tp_i (y := nI 0) rfl ?_
          refine lv_istore (lv' := [(6, .int (nI 0)), (5, .ref v2), (4, .ref x2), (3, .ref v1), (2, .ref x1)]) hx hb dX0_known_499 hl (by decide) rfl (fun ls hl => ?_)
          refine lp_pure (fun i ls => lv_has ls 9 [(6, .int (nI i)), (5, .ref v2), (4, .ref x2)]) 16 (fun i ls hi hl ih => ?_) (fun ls hl => ?_) (lv_sub hl [0, 1, 2] rfl)
          · refine lv_iload hx hb dX0_known_501 (lv_at hl 0 rfl) ?_
            refine lv_bipush (v := 16) hx hb dX0_known_503 (by decide) ?_
            refine lv_icmp_ge (tgt := 531) hx hb dX0_known_505 (by decide) (fun c0 => ?_) (fun c0 => ?_)
            · exact absurd c0 (nI_ge (by omega) (by omega) : ¬ nI 16 ≤ nI i)
            · refine lv_aload hx hb dX0_known_508 (lv_at hl 2 rfl) ?_
              refine lv_iload hx hb dX0_known_510 (lv_at hl 0 rfl) ?_
              refine cs_i (W.runV (As := [.int (nI i)]) (rest := []) ⟨hx, hb, hml, hown, hts⟩ (mt_out l D _ cB cI 0 3 x2 x2k x2b x2o i (sd_run true kn_k2 kn_b2 kn_z) rfl rfl hi) (cwV 1 hts (lw_V q320 q321 q322 q14 q323) rfl rfl rfl (by decide +kernel) ⟨Nat.le_of_ble_eq_true rfl, Nat.le_of_ble_eq_true rfl⟩) ⟨pu_blind, va_recv hK hP (ci := 0) (q0 := 0) rfl rfl, pu_at hP hK⟩ rfl rfl hl.1 rfl (lv_room (Nat.le_of_ble_eq_true rfl)) dX0_known_512 ⟨Nat.le_of_ble_eq_true rfl, Nat.le_of_ble_eq_true rfl⟩) ?_
              refine lv_aload hx hb dX0_known_515 (lv_at hl 1 rfl) ?_
              refine lv_iload hx hb dX0_known_517 (lv_at hl 0 rfl) ?_
              refine va_iald hx hb hK hP 4 1 rfl rfl (vp_in_nI hi (by decide)) dX0_known_519 ?_
              refine tp_i (y := kn_v2 i) (by rw [nI_clamp (by omega)]) ?_
              refine lv_icmp_eq (tgt := 525) hx hb dX0_known_520 (by decide) (fun c1 => ?_) (fun c1 => ?_)
              · refine lv_iinc (v := nI (i + 1)) (lv' := [(6, .int (nI (i + 1))), (5, .ref v2), (4, .ref x2)]) hx hb dX0_known_525 hl (k := 0) rfl (nI_inc i) (by decide) rfl (fun ls hl => ?_)
                refine lv_goto (tgt := 501) hx hb dX0_known_528 (by decide) ?_
                exact ih ls (lv_sub hl [0, 1, 2] rfl)
              · exact absurd (kn_2 kn_z i hi) c1
          · refine lv_iload hx hb dX0_known_501 (lv_at hl 0 rfl) ?_
            refine lv_bipush (v := 16) hx hb dX0_known_503 (by decide) ?_
            refine lv_icmp_ge (tgt := 531) hx hb dX0_known_505 (by decide) (fun c0 => ?_) (fun c0 => ?_)
            · have hP := hP.sub (ws' := []) [] rfl
              have hD := hD.sub (ws' := []) [] (by decide) rfl
              refine va_new (ci := 0) (fs := [.null, .null, .null]) (C := RX1) (T := TX1) (N := 3) hx hb hts in_X1 tyX1 tyX1_ok hown (hts _ q288) (hts _ q33) (hts _ q14) hK hP hD hS hA rfl (fun j hj => by rcases (show j = 0 ∨ j = 1 ∨ j = 2 by omega) with rfl | rfl | rfl <;> rfl) (Nat.le_of_ble_eq_true rfl) (Nat.le_of_ble_eq_true rfl) dX0_known_531 (fun x3 H hP hD hS => ?_)
              have hP : va_P D sCl [(x3, .inr (0, [.null, .null, .null]))] H := hP
              have hD : va_D A [(x3, .inr (0, [.null, .null, .null]))] := hD
              refine W.widen (k := 31) (n := 456) (Nat.le_of_ble_eq_true rfl) (Nat.le_of_ble_eq_true rfl) ?_
              refine lv_dup hx hb dX0_known_534 rfl ?_
              have hPc := hP.sub (ws' := [(x3, .inr (0, [.null, .null, .null]))]) [0] rfl
              have hDc := hD.sub (ws' := [(x3, .inr (0, [.null, .null, .null]))]) [0] (by decide) rfl
              have hFc := va_free (wc := [(x3, .inr (0, [.null, .null, .null]))]) hD hS hA [0] rfl
              refine va_callv (va_runI (As := []) (rest := [.ref x3]) ⟨hx, hb, hml, hown, hts⟩ (mt_sd l D cB cI x3 _ .null .null .null) (cwI 0 hts (lw_meth q291) rfl rfl rfl (hts _ q14) (hts _ q289) (hts _ q290) rfl (by decide +kernel) ⟨Nat.le_of_ble_eq_true rfl, Nat.le_of_ble_eq_true rfl⟩) ⟨px_blind, px_at hPc hK hDc⟩ rfl rfl hl.1 rfl (lv_room (Nat.le_of_ble_eq_true rfl)) dX0_known_535 ⟨Nat.le_of_ble_eq_true rfl, Nat.le_of_ble_eq_true rfl⟩) hS (fun q _ h => hFc q h) hFc (fun uu t H locs ht hvm hw hB hz1 hk1 hS => ?_)
              obtain ⟨x3k, x3b, x3o⟩ := uu
              obtain ⟨hP1, hD1⟩ := hB
              rw [ht] at hP1
              obtain ⟨hP, hD⟩ := va_join (wr := []) (w1 := [(x3, .inr (0, [.ref x3k, .ref x3b, .ref x3o])), (x3k, .inl (cB, 32, .inl kn_z)), (x3b, .inl (cB, 16, .inl kn_z)), (x3o, .inl (cB, 16, .inl kn_z))]) hP hD [0] [] rfl rfl (by decide) (by decide) hk1 hFc hP1 hD1
              have hP := hP.sub (ws' := [(x3, .inr (0, [.ref x3k, .ref x3b, .ref x3o])), (x3k, .inl (cB, 32, .inl kn_z)), (x3b, .inl (cB, 16, .inl kn_z)), (x3o, .inl (cB, 16, .inl kn_z))]) [0, 1, 2, 3] rfl
              have hD := hD.sub (ws' := [(x3, .inr (0, [.ref x3k, .ref x3b, .ref x3o])), (x3k, .inl (cB, 32, .inl kn_z)), (x3b, .inl (cB, 16, .inl kn_z)), (x3o, .inl (cB, 16, .inl kn_z))]) [0, 1, 2, 3] (by decide) rfl
              refine W.widen (k := 34) (n := 520) (Nat.le_of_ble_eq_true rfl) (Nat.le_of_ble_eq_true rfl) ?_
              refine lv_astore (lv' := [(6, .ref x3), (5, .ref v2), (4, .ref x2)]) hx hb dX0_known_538 hl (by decide) rfl (fun ls hl => ?_)
              refine lv_aload hx hb dX0_known_540 (lv_at hl 0 rfl) ?_
              refine lv_iconst (v := 0) hx hb dX0_known_542 (by decide) ?_
              refine lv_ldc (v := 685491132) hx hb hown (hts _ q339) dX0_known_543 ?_
              refine lv_ldc (v := 1241503869) hx hb hown (hts _ q340) dX0_known_545 ?_
              refine lv_ldc (v := (-811267663)) hx hb hown (hts _ q341) dX0_known_547 ?_
              refine lv_ldc (v := 490875879) hx hb hown (hts _ q342) dX0_known_549 ?_
              have hPc := hP.sub (ws' := [(x3, .inr (0, [.ref x3k, .ref x3b, .ref x3o])), (x3k, .inl (cB, 32, .inl kn_z))]) [0, 1] rfl
              have hDc := hD.sub (ws' := [(x3, .inr (0, [.ref x3k, .ref x3b, .ref x3o])), (x3k, .inl (cB, 32, .inl kn_z))]) [0, 1] (by decide) rfl
              have hFc := va_free (wc := [(x3, .inr (0, [.ref x3k, .ref x3b, .ref x3o])), (x3k, .inl (cB, 32, .inl kn_z))]) hD hS hA [0, 1] rfl
              refine va_callv (va_runV (As := [.int (nI 0), .int 685491132, .int 1241503869, .int (-811267663), .int 490875879]) (rest := []) ⟨hx, hb, hml, hown, hts⟩ (mt_key l D cB cI x3 x3k x3b x3o _ 0 kn_z 685491132 1241503869 (-811267663) 490875879 (by decide)) (cwV 5 hts (lw_V q306 q307 q308 q14 q309) rfl rfl rfl (by decide +kernel) ⟨Nat.le_of_ble_eq_true rfl, Nat.le_of_ble_eq_true rfl⟩) ⟨px_blind, va_recv hK hP (ci := 0) (q0 := 0) rfl rfl, px_at hPc hK hDc⟩ rfl rfl hl.1 rfl (lv_room (Nat.le_of_ble_eq_true rfl)) dX0_known_551 ⟨Nat.le_of_ble_eq_true rfl, Nat.le_of_ble_eq_true rfl⟩) hS (fun q _ h => hFc q h) hFc (fun u_ t H locs ht hvm hw hB hz1 hk1 hS => ?_)
              obtain ⟨hP1, hD1⟩ := hB
              rw [ht] at hP1
              obtain ⟨hP, hD⟩ := va_join (wr := [(x3b, .inl (cB, 16, .inl kn_z)), (x3o, .inl (cB, 16, .inl kn_z))]) (w1 := [(x3, .inr (0, [.ref x3k, .ref x3b, .ref x3o])), (x3k, .inl (cB, 32, .inl (sd_4w kn_z 0 685491132 1241503869 (-811267663) 490875879)))]) hP hD [0, 1] [2, 3] rfl rfl (by decide) (by decide) hk1 hFc hP1 hD1
              have hP := hP.sub (ws' := [(x3, .inr (0, [.ref x3k, .ref x3b, .ref x3o])), (x3k, .inl (cB, 32, .inl (sd_4w kn_z 0 685491132 1241503869 (-811267663) 490875879))), (x3b, .inl (cB, 16, .inl kn_z)), (x3o, .inl (cB, 16, .inl kn_z))]) [2, 3, 0, 1] rfl
              have hD := hD.sub (ws' := [(x3, .inr (0, [.ref x3k, .ref x3b, .ref x3o])), (x3k, .inl (cB, 32, .inl (sd_4w kn_z 0 685491132 1241503869 (-811267663) 490875879))), (x3b, .inl (cB, 16, .inl kn_z)), (x3o, .inl (cB, 16, .inl kn_z))]) [2, 3, 0, 1] (by decide) rfl
              refine lv_aload hx hb dX0_known_554 (lv_at hl 0 rfl) ?_
              refine lv_iconst (v := 1) hx hb dX0_known_556 (by decide) ?_
              refine lv_iconst (v := 0) hx hb dX0_known_557 (by decide) ?_
              refine lv_iconst (v := 0) hx hb dX0_known_558 (by decide) ?_
              refine lv_iconst (v := 0) hx hb dX0_known_559 (by decide) ?_
              refine lv_iconst (v := 0) hx hb dX0_known_560 (by decide) ?_
              have hPc := hP.sub (ws' := [(x3, .inr (0, [.ref x3k, .ref x3b, .ref x3o])), (x3k, .inl (cB, 32, .inl (sd_4w kn_z 0 685491132 1241503869 (-811267663) 490875879)))]) [0, 1] rfl
              have hDc := hD.sub (ws' := [(x3, .inr (0, [.ref x3k, .ref x3b, .ref x3o])), (x3k, .inl (cB, 32, .inl (sd_4w kn_z 0 685491132 1241503869 (-811267663) 490875879)))]) [0, 1] (by decide) rfl
              have hFc := va_free (wc := [(x3, .inr (0, [.ref x3k, .ref x3b, .ref x3o])), (x3k, .inl (cB, 32, .inl (sd_4w kn_z 0 685491132 1241503869 (-811267663) 490875879)))]) hD hS hA [0, 1] rfl
              refine va_callv (va_runV (As := [.int (nI 1), .int 0, .int 0, .int 0, .int 0]) (rest := []) ⟨hx, hb, hml, hown, hts⟩ (mt_key l D cB cI x3 x3k x3b x3o _ 1 (sd_4w kn_z 0 685491132 1241503869 (-811267663) 490875879) 0 0 0 0 (by decide)) (cwV 5 hts (lw_V q306 q307 q308 q14 q309) rfl rfl rfl (by decide +kernel) ⟨Nat.le_of_ble_eq_true rfl, Nat.le_of_ble_eq_true rfl⟩) ⟨px_blind, va_recv hK hP (ci := 0) (q0 := 0) rfl rfl, px_at hPc hK hDc⟩ rfl rfl hl.1 rfl (lv_room (Nat.le_of_ble_eq_true rfl)) dX0_known_561 ⟨Nat.le_of_ble_eq_true rfl, Nat.le_of_ble_eq_true rfl⟩) hS (fun q _ h => hFc q h) hFc (fun u_ t H locs ht hvm hw hB hz1 hk1 hS => ?_)
              obtain ⟨hP1, hD1⟩ := hB
              rw [ht] at hP1
              obtain ⟨hP, hD⟩ := va_join (wr := [(x3b, .inl (cB, 16, .inl kn_z)), (x3o, .inl (cB, 16, .inl kn_z))]) (w1 := [(x3, .inr (0, [.ref x3k, .ref x3b, .ref x3o])), (x3k, .inl (cB, 32, .inl (sd_4w (sd_4w kn_z 0 685491132 1241503869 (-811267663) 490875879) 16 0 0 0 0)))]) hP hD [0, 1] [2, 3] rfl rfl (by decide) (by decide) hk1 hFc hP1 hD1
              have hP := hP.sub (ws' := [(x3, .inr (0, [.ref x3k, .ref x3b, .ref x3o])), (x3k, .inl (cB, 32, .inl (sd_4w (sd_4w kn_z 0 685491132 1241503869 (-811267663) 490875879) 16 0 0 0 0))), (x3b, .inl (cB, 16, .inl kn_z)), (x3o, .inl (cB, 16, .inl kn_z))]) [2, 3, 0, 1] rfl
              have hD := hD.sub (ws' := [(x3, .inr (0, [.ref x3k, .ref x3b, .ref x3o])), (x3k, .inl (cB, 32, .inl (sd_4w (sd_4w kn_z 0 685491132 1241503869 (-811267663) 490875879) 16 0 0 0 0))), (x3b, .inl (cB, 16, .inl kn_z)), (x3o, .inl (cB, 16, .inl kn_z))]) [2, 3, 0, 1] (by decide) rfl
              refine lv_aload hx hb dX0_known_564 (lv_at hl 0 rfl) ?_
              refine lv_ldc (v := (-1273074718)) hx hb hown (hts _ q343) dX0_known_566 ?_
              refine lv_ldc (v := (-341292524)) hx hb hown (hts _ q344) dX0_known_568 ?_
              refine lv_ldc (v := (-1909527164)) hx hb hown (hts _ q345) dX0_known_570 ?_
              refine lv_ldc (v := 1497128647) hx hb hown (hts _ q346) dX0_known_572 ?_
              have hPc := hP.sub (ws' := [(x3, .inr (0, [.ref x3k, .ref x3b, .ref x3o])), (x3b, .inl (cB, 16, .inl kn_z))]) [0, 2] rfl
              have hDc := hD.sub (ws' := [(x3, .inr (0, [.ref x3k, .ref x3b, .ref x3o])), (x3b, .inl (cB, 16, .inl kn_z))]) [0, 2] (by decide) rfl
              have hFc := va_free (wc := [(x3, .inr (0, [.ref x3k, .ref x3b, .ref x3o])), (x3b, .inl (cB, 16, .inl kn_z))]) hD hS hA [0, 2] rfl
              refine va_callv (va_runV (As := [.int (-1273074718), .int (-341292524), .int (-1909527164), .int 1497128647]) (rest := []) ⟨hx, hb, hml, hown, hts⟩ (mt_blk l D cB cI x3 x3k x3b x3o _ kn_z (-1273074718) (-341292524) (-1909527164) 1497128647) (cwV 4 hts (lw_V q313 q314 q315 q14 q316) rfl rfl rfl (by decide +kernel) ⟨Nat.le_of_ble_eq_true rfl, Nat.le_of_ble_eq_true rfl⟩) ⟨px_blind, va_recv hK hP (ci := 0) (q0 := 0) rfl rfl, px_at hPc hK hDc⟩ rfl rfl hl.1 rfl (lv_room (Nat.le_of_ble_eq_true rfl)) dX0_known_574 ⟨Nat.le_of_ble_eq_true rfl, Nat.le_of_ble_eq_true rfl⟩) hS (fun q _ h => hFc q h) hFc (fun u_ t H locs ht hvm hw hB hz1 hk1 hS => ?_)
              obtain ⟨hP1, hD1⟩ := hB
              rw [ht] at hP1
              obtain ⟨hP, hD⟩ := va_join (wr := [(x3k, .inl (cB, 32, .inl (sd_4w (sd_4w kn_z 0 685491132 1241503869 (-811267663) 490875879) 16 0 0 0 0))), (x3o, .inl (cB, 16, .inl kn_z))]) (w1 := [(x3, .inr (0, [.ref x3k, .ref x3b, .ref x3o])), (x3b, .inl (cB, 16, .inl (sd_4w kn_z 0 (-1273074718) (-341292524) (-1909527164) 1497128647)))]) hP hD [0, 2] [1, 3] rfl rfl (by decide) (by decide) hk1 hFc hP1 hD1
              have hP := hP.sub (ws' := [(x3, .inr (0, [.ref x3k, .ref x3b, .ref x3o])), (x3k, .inl (cB, 32, .inl (sd_4w (sd_4w kn_z 0 685491132 1241503869 (-811267663) 490875879) 16 0 0 0 0))), (x3b, .inl (cB, 16, .inl (sd_4w kn_z 0 (-1273074718) (-341292524) (-1909527164) 1497128647))), (x3o, .inl (cB, 16, .inl kn_z))]) [2, 0, 3, 1] rfl
              have hD := hD.sub (ws' := [(x3, .inr (0, [.ref x3k, .ref x3b, .ref x3o])), (x3k, .inl (cB, 32, .inl (sd_4w (sd_4w kn_z 0 685491132 1241503869 (-811267663) 490875879) 16 0 0 0 0))), (x3b, .inl (cB, 16, .inl (sd_4w kn_z 0 (-1273074718) (-341292524) (-1909527164) 1497128647))), (x3o, .inl (cB, 16, .inl kn_z))]) [2, 0, 3, 1] (by decide) rfl
              have hP : va_P D sCl [(x3, .inr (0, [.ref x3k, .ref x3b, .ref x3o])), (x3k, .inl (cB, 32, .inl kn_k3)), (x3b, .inl (cB, 16, .inl kn_b3)), (x3o, .inl (cB, 16, .inl kn_z))] H := hP
              have hD : va_D A [(x3, .inr (0, [.ref x3k, .ref x3b, .ref x3o])), (x3k, .inl (cB, 32, .inl kn_k3)), (x3b, .inl (cB, 16, .inl kn_b3)), (x3o, .inl (cB, 16, .inl kn_z))] := hD
              refine lv_aload hx hb dX0_known_577 (lv_at hl 0 rfl) ?_
              refine lv_iconst (v := 0) hx hb dX0_known_579 (by decide) ?_
              have hPc := hP.sub (ws' := [(x3, .inr (0, [.ref x3k, .ref x3b, .ref x3o])), (x3k, .inl (cB, 32, .inl kn_k3)), (x3b, .inl (cB, 16, .inl kn_b3)), (x3o, .inl (cB, 16, .inl kn_z))]) [0, 1, 2, 3] rfl
              have hDc := hD.sub (ws' := [(x3, .inr (0, [.ref x3k, .ref x3b, .ref x3o])), (x3k, .inl (cB, 32, .inl kn_k3)), (x3b, .inl (cB, 16, .inl kn_b3)), (x3o, .inl (cB, 16, .inl kn_z))]) [0, 1, 2, 3] (by decide) rfl
              have hFc := va_free (wc := [(x3, .inr (0, [.ref x3k, .ref x3b, .ref x3o])), (x3k, .inl (cB, 32, .inl kn_k3)), (x3b, .inl (cB, 16, .inl kn_b3)), (x3o, .inl (cB, 16, .inl kn_z))]) hD hS hA [0, 1, 2, 3] rfl
              have hTc := tb_here hT hS hFc
              refine va_callv (va_runV (As := [.int 0]) (rest := []) ⟨hx, hb, hml, hown, hts⟩ (mt_lock l D cB cI x3 x3k x3b x3o _ kn_k3 kn_b3 kn_z 0) (cwV 1 hts (lw_V q26 q27 q28 q14 q29) rfl rfl rfl (by decide +kernel) ⟨Nat.le_of_ble_eq_true rfl, Nat.le_of_ble_eq_true rfl⟩) ⟨pz_blind, va_recv hK hP (ci := 0) (q0 := 0) rfl rfl, pz_at hPc hK hDc hTc hI⟩ rfl rfl hl.1 rfl (lv_room (Nat.le_of_ble_eq_true rfl)) dX0_known_580 ⟨Nat.le_of_ble_eq_true rfl, Nat.le_of_ble_eq_true rfl⟩) hS (fun q _ h => hFc q h) hFc (fun u_ t H locs ht hvm hw hB hz1 hk1 hS => ?_)
              obtain ⟨hP1, hD1⟩ := hB
              rw [ht] at hP1
              obtain ⟨hP, hD⟩ := va_join (wr := []) (w1 := [(x3, .inr (0, [.ref x3k, .ref x3b, .ref x3o])), (x3k, .inl (cB, 32, .inl kn_k3)), (x3b, .inl (cB, 16, .inl kn_b3)), (x3o, .inl (cB, 16, .inl (sd_run true kn_k3 kn_b3 kn_z)))]) hP hD [0, 1, 2, 3] [] rfl rfl (by decide) (by decide) hk1 hFc hP1 hD1
              have hP := hP.sub (ws' := [(x3, .inr (0, [.ref x3k, .ref x3b, .ref x3o])), (x3k, .inl (cB, 32, .inl kn_k3)), (x3b, .inl (cB, 16, .inl kn_b3)), (x3o, .inl (cB, 16, .inl (sd_run true kn_k3 kn_b3 kn_z)))]) [0, 1, 2, 3] rfl
              have hD := hD.sub (ws' := [(x3, .inr (0, [.ref x3k, .ref x3b, .ref x3o])), (x3k, .inl (cB, 32, .inl kn_k3)), (x3b, .inl (cB, 16, .inl kn_b3)), (x3o, .inl (cB, 16, .inl (sd_run true kn_k3 kn_b3 kn_z)))]) [0, 1, 2, 3] (by decide) rfl
              refine W.widen (k := 39) (n := 588) (Nat.le_of_ble_eq_true rfl) (Nat.le_of_ble_eq_true rfl) ?_
              refine lv_bipush (v := 16) hx hb dX0_known_583 (by decide) ?_
              refine va_newa (atype := .int) (ty := .int) (a0 := (16, .inl kn_z)) hx hb (hts _ q222) rfl hK hP hD hS hA (fun _ => rfl) (by decide) (by decide) (Nat.le_of_ble_eq_true rfl) (Nat.le_of_ble_eq_true rfl) (Nat.le_of_ble_eq_true rfl) dX0_known_585 (fun v3 cA H hK2 hP hD hS => ?_)
              have hq := ty_sameI hK2
              rw [hq] at hP hD
              have hP : va_P D sCl [(x3, .inr (0, [.ref x3k, .ref x3b, .ref x3o])), (x3k, .inl (cB, 32, .inl kn_k3)), (x3b, .inl (cB, 16, .inl kn_b3)), (x3o, .inl (cB, 16, .inl (sd_run true kn_k3 kn_b3 kn_z))), (v3, .inl (cI, 16, .inl kn_z))] H := hP
              have hD : va_D A [(x3, .inr (0, [.ref x3k, .ref x3b, .ref x3o])), (x3k, .inl (cB, 32, .inl kn_k3)), (x3b, .inl (cB, 16, .inl kn_b3)), (x3o, .inl (cB, 16, .inl (sd_run true kn_k3 kn_b3 kn_z))), (v3, .inl (cI, 16, .inl kn_z))] := hD
              refine W.widen (k := 40) (n := 604) (Nat.le_of_ble_eq_true rfl) (Nat.le_of_ble_eq_true rfl) ?_
              refine lv_dup hx hb dX0_known_587 rfl ?_
              refine lv_iconst (v := 0) hx hb dX0_known_588 (by decide) ?_
              refine lv_sipush (v := 155) hx hb dX0_known_589 (by decide) ?_
              refine va_iast hx hb hK hP hD hS 4 1 rfl rfl (show vp_in (nI 0) 16 from vp_in_nI (by decide) (by decide)) dX0_known_592 (fun H locs hP hD hS => ?_)
              have hP : va_P D sCl [(x3, .inr (0, [.ref x3k, .ref x3b, .ref x3o])), (x3k, .inl (cB, 32, .inl kn_k3)), (x3b, .inl (cB, 16, .inl kn_b3)), (x3o, .inl (cB, 16, .inl (sd_run true kn_k3 kn_b3 kn_z))), (v3, .inl (cI, 16, .inl (upd kn_z 0 155)))] H := hP
              have hD : va_D A [(x3, .inr (0, [.ref x3k, .ref x3b, .ref x3o])), (x3k, .inl (cB, 32, .inl kn_k3)), (x3b, .inl (cB, 16, .inl kn_b3)), (x3o, .inl (cB, 16, .inl (sd_run true kn_k3 kn_b3 kn_z))), (v3, .inl (cI, 16, .inl (upd kn_z 0 155)))] := hD
              refine lv_dup hx hb dX0_known_593 rfl ?_
              refine lv_iconst (v := 1) hx hb dX0_known_594 (by decide) ?_
              refine lv_sipush (v := 155) hx hb dX0_known_595 (by decide) ?_
              refine va_iast hx hb hK hP hD hS 4 1 rfl rfl (show vp_in (nI 1) 16 from vp_in_nI (by decide) (by decide)) dX0_known_598 (fun H locs hP hD hS => ?_)
              have hP : va_P D sCl [(x3, .inr (0, [.ref x3k, .ref x3b, .ref x3o])), (x3k, .inl (cB, 32, .inl kn_k3)), (x3b, .inl (cB, 16, .inl kn_b3)), (x3o, .inl (cB, 16, .inl (sd_run true kn_k3 kn_b3 kn_z))), (v3, .inl (cI, 16, .inl (upd (upd kn_z 0 155) 1 155)))] H := hP
              have hD : va_D A [(x3, .inr (0, [.ref x3k, .ref x3b, .ref x3o])), (x3k, .inl (cB, 32, .inl kn_k3)), (x3b, .inl (cB, 16, .inl kn_b3)), (x3o, .inl (cB, 16, .inl (sd_run true kn_k3 kn_b3 kn_z))), (v3, .inl (cI, 16, .inl (upd (upd kn_z 0 155) 1 155)))] := hD
              refine lv_dup hx hb dX0_known_599 rfl ?_
              refine lv_iconst (v := 2) hx hb dX0_known_600 (by decide) ?_
              refine lv_bipush (v := 123) hx hb dX0_known_601 (by decide) ?_
              refine va_iast hx hb hK hP hD hS 4 1 rfl rfl (show vp_in (nI 2) 16 from vp_in_nI (by decide) (by decide)) dX0_known_603 (fun H locs hP hD hS => ?_)
              have hP : va_P D sCl [(x3, .inr (0, [.ref x3k, .ref x3b, .ref x3o])), (x3k, .inl (cB, 32, .inl kn_k3)), (x3b, .inl (cB, 16, .inl kn_b3)), (x3o, .inl (cB, 16, .inl (sd_run true kn_k3 kn_b3 kn_z))), (v3, .inl (cI, 16, .inl (upd (upd (upd kn_z 0 155) 1 155) 2 123)))] H := hP
              have hD : va_D A [(x3, .inr (0, [.ref x3k, .ref x3b, .ref x3o])), (x3k, .inl (cB, 32, .inl kn_k3)), (x3b, .inl (cB, 16, .inl kn_b3)), (x3o, .inl (cB, 16, .inl (sd_run true kn_k3 kn_b3 kn_z))), (v3, .inl (cI, 16, .inl (upd (upd (upd kn_z 0 155) 1 155) 2 123)))] := hD
              refine lv_dup hx hb dX0_known_604 rfl ?_
              refine lv_iconst (v := 3) hx hb dX0_known_605 (by decide) ?_
              refine lv_sipush (v := 252) hx hb dX0_known_606 (by decide) ?_
              refine va_iast hx hb hK hP hD hS 4 1 rfl rfl (show vp_in (nI 3) 16 from vp_in_nI (by decide) (by decide)) dX0_known_609 (fun H locs hP hD hS => ?_)
              have hP : va_P D sCl [(x3, .inr (0, [.ref x3k, .ref x3b, .ref x3o])), (x3k, .inl (cB, 32, .inl kn_k3)), (x3b, .inl (cB, 16, .inl kn_b3)), (x3o, .inl (cB, 16, .inl (sd_run true kn_k3 kn_b3 kn_z))), (v3, .inl (cI, 16, .inl (upd (upd (upd (upd kn_z 0 155) 1 155) 2 123) 3 252)))] H := hP
              have hD : va_D A [(x3, .inr (0, [.ref x3k, .ref x3b, .ref x3o])), (x3k, .inl (cB, 32, .inl kn_k3)), (x3b, .inl (cB, 16, .inl kn_b3)), (x3o, .inl (cB, 16, .inl (sd_run true kn_k3 kn_b3 kn_z))), (v3, .inl (cI, 16, .inl (upd (upd (upd (upd kn_z 0 155) 1 155) 2 123) 3 252)))] := hD
              refine lv_dup hx hb dX0_known_610 rfl ?_
              refine lv_iconst (v := 4) hx hb dX0_known_611 (by decide) ?_
              refine lv_sipush (v := 209) hx hb dX0_known_612 (by decide) ?_
              refine va_iast hx hb hK hP hD hS 4 1 rfl rfl (show vp_in (nI 4) 16 from vp_in_nI (by decide) (by decide)) dX0_known_615 (fun H locs hP hD hS => ?_)
              have hP : va_P D sCl [(x3, .inr (0, [.ref x3k, .ref x3b, .ref x3o])), (x3k, .inl (cB, 32, .inl kn_k3)), (x3b, .inl (cB, 16, .inl kn_b3)), (x3o, .inl (cB, 16, .inl (sd_run true kn_k3 kn_b3 kn_z))), (v3, .inl (cI, 16, .inl (upd (upd (upd (upd (upd kn_z 0 155) 1 155) 2 123) 3 252) 4 209)))] H := hP
              have hD : va_D A [(x3, .inr (0, [.ref x3k, .ref x3b, .ref x3o])), (x3k, .inl (cB, 32, .inl kn_k3)), (x3b, .inl (cB, 16, .inl kn_b3)), (x3o, .inl (cB, 16, .inl (sd_run true kn_k3 kn_b3 kn_z))), (v3, .inl (cI, 16, .inl (upd (upd (upd (upd (upd kn_z 0 155) 1 155) 2 123) 3 252) 4 209)))] := hD
              refine lv_dup hx hb dX0_known_616 rfl ?_
              refine lv_iconst (v := 5) hx hb dX0_known_617 (by decide) ?_
              refine lv_sipush (v := 129) hx hb dX0_known_618 (by decide) ?_
              refine va_iast hx hb hK hP hD hS 4 1 rfl rfl (show vp_in (nI 5) 16 from vp_in_nI (by decide) (by decide)) dX0_known_621 (fun H locs hP hD hS => ?_)
              have hP : va_P D sCl [(x3, .inr (0, [.ref x3k, .ref x3b, .ref x3o])), (x3k, .inl (cB, 32, .inl kn_k3)), (x3b, .inl (cB, 16, .inl kn_b3)), (x3o, .inl (cB, 16, .inl (sd_run true kn_k3 kn_b3 kn_z))), (v3, .inl (cI, 16, .inl (upd (upd (upd (upd (upd (upd kn_z 0 155) 1 155) 2 123) 3 252) 4 209) 5 129)))] H := hP
              have hD : va_D A [(x3, .inr (0, [.ref x3k, .ref x3b, .ref x3o])), (x3k, .inl (cB, 32, .inl kn_k3)), (x3b, .inl (cB, 16, .inl kn_b3)), (x3o, .inl (cB, 16, .inl (sd_run true kn_k3 kn_b3 kn_z))), (v3, .inl (cI, 16, .inl (upd (upd (upd (upd (upd (upd kn_z 0 155) 1 155) 2 123) 3 252) 4 209) 5 129)))] := hD
              refine lv_dup hx hb dX0_known_622 rfl ?_
              refine lv_bipush (v := 6) hx hb dX0_known_623 (by decide) ?_
              refine lv_bipush (v := 60) hx hb dX0_known_625 (by decide) ?_
              refine va_iast hx hb hK hP hD hS 4 1 rfl rfl (show vp_in (nI 6) 16 from vp_in_nI (by decide) (by decide)) dX0_known_627 (fun H locs hP hD hS => ?_)
              have hP : va_P D sCl [(x3, .inr (0, [.ref x3k, .ref x3b, .ref x3o])), (x3k, .inl (cB, 32, .inl kn_k3)), (x3b, .inl (cB, 16, .inl kn_b3)), (x3o, .inl (cB, 16, .inl (sd_run true kn_k3 kn_b3 kn_z))), (v3, .inl (cI, 16, .inl (upd (upd (upd (upd (upd (upd (upd kn_z 0 155) 1 155) 2 123) 3 252) 4 209) 5 129) 6 60)))] H := hP
              have hD : va_D A [(x3, .inr (0, [.ref x3k, .ref x3b, .ref x3o])), (x3k, .inl (cB, 32, .inl kn_k3)), (x3b, .inl (cB, 16, .inl kn_b3)), (x3o, .inl (cB, 16, .inl (sd_run true kn_k3 kn_b3 kn_z))), (v3, .inl (cI, 16, .inl (upd (upd (upd (upd (upd (upd (upd kn_z 0 155) 1 155) 2 123) 3 252) 4 209) 5 129) 6 60)))] := hD
              refine lv_dup hx hb dX0_known_628 rfl ?_
              refine lv_bipush (v := 7) hx hb dX0_known_629 (by decide) ?_
              refine lv_sipush (v := 185) hx hb dX0_known_631 (by decide) ?_
              refine va_iast hx hb hK hP hD hS 4 1 rfl rfl (show vp_in (nI 7) 16 from vp_in_nI (by decide) (by decide)) dX0_known_634 (fun H locs hP hD hS => ?_)
              have hP : va_P D sCl [(x3, .inr (0, [.ref x3k, .ref x3b, .ref x3o])), (x3k, .inl (cB, 32, .inl kn_k3)), (x3b, .inl (cB, 16, .inl kn_b3)), (x3o, .inl (cB, 16, .inl (sd_run true kn_k3 kn_b3 kn_z))), (v3, .inl (cI, 16, .inl (upd (upd (upd (upd (upd (upd (upd (upd kn_z 0 155) 1 155) 2 123) 3 252) 4 209) 5 129) 6 60) 7 185)))] H := hP
              have hD : va_D A [(x3, .inr (0, [.ref x3k, .ref x3b, .ref x3o])), (x3k, .inl (cB, 32, .inl kn_k3)), (x3b, .inl (cB, 16, .inl kn_b3)), (x3o, .inl (cB, 16, .inl (sd_run true kn_k3 kn_b3 kn_z))), (v3, .inl (cI, 16, .inl (upd (upd (upd (upd (upd (upd (upd (upd kn_z 0 155) 1 155) 2 123) 3 252) 4 209) 5 129) 6 60) 7 185)))] := hD
              refine lv_dup hx hb dX0_known_635 rfl ?_
              refine lv_bipush (v := 8) hx hb dX0_known_636 (by decide) ?_
              refine lv_bipush (v := 93) hx hb dX0_known_638 (by decide) ?_
              refine va_iast hx hb hK hP hD hS 4 1 rfl rfl (show vp_in (nI 8) 16 from vp_in_nI (by decide) (by decide)) dX0_known_640 (fun H locs hP hD hS => ?_)
              have hP : va_P D sCl [(x3, .inr (0, [.ref x3k, .ref x3b, .ref x3o])), (x3k, .inl (cB, 32, .inl kn_k3)), (x3b, .inl (cB, 16, .inl kn_b3)), (x3o, .inl (cB, 16, .inl (sd_run true kn_k3 kn_b3 kn_z))), (v3, .inl (cI, 16, .inl (upd (upd (upd (upd (upd (upd (upd (upd (upd kn_z 0 155) 1 155) 2 123) 3 252) 4 209) 5 129) 6 60) 7 185) 8 93)))] H := hP
              have hD : va_D A [(x3, .inr (0, [.ref x3k, .ref x3b, .ref x3o])), (x3k, .inl (cB, 32, .inl kn_k3)), (x3b, .inl (cB, 16, .inl kn_b3)), (x3o, .inl (cB, 16, .inl (sd_run true kn_k3 kn_b3 kn_z))), (v3, .inl (cI, 16, .inl (upd (upd (upd (upd (upd (upd (upd (upd (upd kn_z 0 155) 1 155) 2 123) 3 252) 4 209) 5 129) 6 60) 7 185) 8 93)))] := hD
              refine lv_dup hx hb dX0_known_641 rfl ?_
              refine lv_bipush (v := 9) hx hb dX0_known_642 (by decide) ?_
              refine lv_bipush (v := 11) hx hb dX0_known_644 (by decide) ?_
              refine va_iast hx hb hK hP hD hS 4 1 rfl rfl (show vp_in (nI 9) 16 from vp_in_nI (by decide) (by decide)) dX0_known_646 (fun H locs hP hD hS => ?_)
              have hP : va_P D sCl [(x3, .inr (0, [.ref x3k, .ref x3b, .ref x3o])), (x3k, .inl (cB, 32, .inl kn_k3)), (x3b, .inl (cB, 16, .inl kn_b3)), (x3o, .inl (cB, 16, .inl (sd_run true kn_k3 kn_b3 kn_z))), (v3, .inl (cI, 16, .inl (upd (upd (upd (upd (upd (upd (upd (upd (upd (upd kn_z 0 155) 1 155) 2 123) 3 252) 4 209) 5 129) 6 60) 7 185) 8 93) 9 11)))] H := hP
              have hD : va_D A [(x3, .inr (0, [.ref x3k, .ref x3b, .ref x3o])), (x3k, .inl (cB, 32, .inl kn_k3)), (x3b, .inl (cB, 16, .inl kn_b3)), (x3o, .inl (cB, 16, .inl (sd_run true kn_k3 kn_b3 kn_z))), (v3, .inl (cI, 16, .inl (upd (upd (upd (upd (upd (upd (upd (upd (upd (upd kn_z 0 155) 1 155) 2 123) 3 252) 4 209) 5 129) 6 60) 7 185) 8 93) 9 11)))] := hD
              refine lv_dup hx hb dX0_known_647 rfl ?_
              refine lv_bipush (v := 10) hx hb dX0_known_648 (by decide) ?_
              refine lv_bipush (v := 54) hx hb dX0_known_650 (by decide) ?_
              refine va_iast hx hb hK hP hD hS 4 1 rfl rfl (show vp_in (nI 10) 16 from vp_in_nI (by decide) (by decide)) dX0_known_652 (fun H locs hP hD hS => ?_)
              have hP : va_P D sCl [(x3, .inr (0, [.ref x3k, .ref x3b, .ref x3o])), (x3k, .inl (cB, 32, .inl kn_k3)), (x3b, .inl (cB, 16, .inl kn_b3)), (x3o, .inl (cB, 16, .inl (sd_run true kn_k3 kn_b3 kn_z))), (v3, .inl (cI, 16, .inl (upd (upd (upd (upd (upd (upd (upd (upd (upd (upd (upd kn_z 0 155) 1 155) 2 123) 3 252) 4 209) 5 129) 6 60) 7 185) 8 93) 9 11) 10 54)))] H := hP
              have hD : va_D A [(x3, .inr (0, [.ref x3k, .ref x3b, .ref x3o])), (x3k, .inl (cB, 32, .inl kn_k3)), (x3b, .inl (cB, 16, .inl kn_b3)), (x3o, .inl (cB, 16, .inl (sd_run true kn_k3 kn_b3 kn_z))), (v3, .inl (cI, 16, .inl (upd (upd (upd (upd (upd (upd (upd (upd (upd (upd (upd kn_z 0 155) 1 155) 2 123) 3 252) 4 209) 5 129) 6 60) 7 185) 8 93) 9 11) 10 54)))] := hD
              refine lv_dup hx hb dX0_known_653 rfl ?_
              refine lv_bipush (v := 11) hx hb dX0_known_654 (by decide) ?_
              refine lv_bipush (v := 24) hx hb dX0_known_656 (by decide) ?_
              refine va_iast hx hb hK hP hD hS 4 1 rfl rfl (show vp_in (nI 11) 16 from vp_in_nI (by decide) (by decide)) dX0_known_658 (fun H locs hP hD hS => ?_)
              have hP : va_P D sCl [(x3, .inr (0, [.ref x3k, .ref x3b, .ref x3o])), (x3k, .inl (cB, 32, .inl kn_k3)), (x3b, .inl (cB, 16, .inl kn_b3)), (x3o, .inl (cB, 16, .inl (sd_run true kn_k3 kn_b3 kn_z))), (v3, .inl (cI, 16, .inl (upd (upd (upd (upd (upd (upd (upd (upd (upd (upd (upd (upd kn_z 0 155) 1 155) 2 123) 3 252) 4 209) 5 129) 6 60) 7 185) 8 93) 9 11) 10 54) 11 24)))] H := hP
              have hD : va_D A [(x3, .inr (0, [.ref x3k, .ref x3b, .ref x3o])), (x3k, .inl (cB, 32, .inl kn_k3)), (x3b, .inl (cB, 16, .inl kn_b3)), (x3o, .inl (cB, 16, .inl (sd_run true kn_k3 kn_b3 kn_z))), (v3, .inl (cI, 16, .inl (upd (upd (upd (upd (upd (upd (upd (upd (upd (upd (upd (upd kn_z 0 155) 1 155) 2 123) 3 252) 4 209) 5 129) 6 60) 7 185) 8 93) 9 11) 10 54) 11 24)))] := hD
              refine lv_dup hx hb dX0_known_659 rfl ?_
              refine lv_bipush (v := 12) hx hb dX0_known_660 (by decide) ?_
              refine lv_sipush (v := 244) hx hb dX0_known_662 (by decide) ?_
              refine va_iast hx hb hK hP hD hS 4 1 rfl rfl (show vp_in (nI 12) 16 from vp_in_nI (by decide) (by decide)) dX0_known_665 (fun H locs hP hD hS => ?_)
              have hP : va_P D sCl [(x3, .inr (0, [.ref x3k, .ref x3b, .ref x3o])), (x3k, .inl (cB, 32, .inl kn_k3)), (x3b, .inl (cB, 16, .inl kn_b3)), (x3o, .inl (cB, 16, .inl (sd_run true kn_k3 kn_b3 kn_z))), (v3, .inl (cI, 16, .inl (upd (upd (upd (upd (upd (upd (upd (upd (upd (upd (upd (upd (upd kn_z 0 155) 1 155) 2 123) 3 252) 4 209) 5 129) 6 60) 7 185) 8 93) 9 11) 10 54) 11 24) 12 244)))] H := hP
              have hD : va_D A [(x3, .inr (0, [.ref x3k, .ref x3b, .ref x3o])), (x3k, .inl (cB, 32, .inl kn_k3)), (x3b, .inl (cB, 16, .inl kn_b3)), (x3o, .inl (cB, 16, .inl (sd_run true kn_k3 kn_b3 kn_z))), (v3, .inl (cI, 16, .inl (upd (upd (upd (upd (upd (upd (upd (upd (upd (upd (upd (upd (upd kn_z 0 155) 1 155) 2 123) 3 252) 4 209) 5 129) 6 60) 7 185) 8 93) 9 11) 10 54) 11 24) 12 244)))] := hD
              refine lv_dup hx hb dX0_known_666 rfl ?_
              refine lv_bipush (v := 13) hx hb dX0_known_667 (by decide) ?_
              refine lv_bipush (v := 15) hx hb dX0_known_669 (by decide) ?_
              refine va_iast hx hb hK hP hD hS 4 1 rfl rfl (show vp_in (nI 13) 16 from vp_in_nI (by decide) (by decide)) dX0_known_671 (fun H locs hP hD hS => ?_)
              have hP : va_P D sCl [(x3, .inr (0, [.ref x3k, .ref x3b, .ref x3o])), (x3k, .inl (cB, 32, .inl kn_k3)), (x3b, .inl (cB, 16, .inl kn_b3)), (x3o, .inl (cB, 16, .inl (sd_run true kn_k3 kn_b3 kn_z))), (v3, .inl (cI, 16, .inl (upd (upd (upd (upd (upd (upd (upd (upd (upd (upd (upd (upd (upd (upd kn_z 0 155) 1 155) 2 123) 3 252) 4 209) 5 129) 6 60) 7 185) 8 93) 9 11) 10 54) 11 24) 12 244) 13 15)))] H := hP
              have hD : va_D A [(x3, .inr (0, [.ref x3k, .ref x3b, .ref x3o])), (x3k, .inl (cB, 32, .inl kn_k3)), (x3b, .inl (cB, 16, .inl kn_b3)), (x3o, .inl (cB, 16, .inl (sd_run true kn_k3 kn_b3 kn_z))), (v3, .inl (cI, 16, .inl (upd (upd (upd (upd (upd (upd (upd (upd (upd (upd (upd (upd (upd (upd kn_z 0 155) 1 155) 2 123) 3 252) 4 209) 5 129) 6 60) 7 185) 8 93) 9 11) 10 54) 11 24) 12 244) 13 15)))] := hD
              refine lv_dup hx hb dX0_known_672 rfl ?_
              refine lv_bipush (v := 14) hx hb dX0_known_673 (by decide) ?_
              refine lv_bipush (v := 81) hx hb dX0_known_675 (by decide) ?_
              refine va_iast hx hb hK hP hD hS 4 1 rfl rfl (show vp_in (nI 14) 16 from vp_in_nI (by decide) (by decide)) dX0_known_677 (fun H locs hP hD hS => ?_)
              have hP : va_P D sCl [(x3, .inr (0, [.ref x3k, .ref x3b, .ref x3o])), (x3k, .inl (cB, 32, .inl kn_k3)), (x3b, .inl (cB, 16, .inl kn_b3)), (x3o, .inl (cB, 16, .inl (sd_run true kn_k3 kn_b3 kn_z))), (v3, .inl (cI, 16, .inl (upd (upd (upd (upd (upd (upd (upd (upd (upd (upd (upd (upd (upd (upd (upd kn_z 0 155) 1 155) 2 123) 3 252) 4 209) 5 129) 6 60) 7 185) 8 93) 9 11) 10 54) 11 24) 12 244) 13 15) 14 81)))] H := hP
              have hD : va_D A [(x3, .inr (0, [.ref x3k, .ref x3b, .ref x3o])), (x3k, .inl (cB, 32, .inl kn_k3)), (x3b, .inl (cB, 16, .inl kn_b3)), (x3o, .inl (cB, 16, .inl (sd_run true kn_k3 kn_b3 kn_z))), (v3, .inl (cI, 16, .inl (upd (upd (upd (upd (upd (upd (upd (upd (upd (upd (upd (upd (upd (upd (upd kn_z 0 155) 1 155) 2 123) 3 252) 4 209) 5 129) 6 60) 7 185) 8 93) 9 11) 10 54) 11 24) 12 244) 13 15) 14 81)))] := hD
              refine lv_dup hx hb dX0_known_678 rfl ?_
              refine lv_bipush (v := 15) hx hb dX0_known_679 (by decide) ?_
              refine lv_bipush (v := 34) hx hb dX0_known_681 (by decide) ?_
              refine va_iast hx hb hK hP hD hS 4 1 rfl rfl (show vp_in (nI 15) 16 from vp_in_nI (by decide) (by decide)) dX0_known_683 (fun H locs hP hD hS => ?_)
              have hP : va_P D sCl [(x3, .inr (0, [.ref x3k, .ref x3b, .ref x3o])), (x3k, .inl (cB, 32, .inl kn_k3)), (x3b, .inl (cB, 16, .inl kn_b3)), (x3o, .inl (cB, 16, .inl (sd_run true kn_k3 kn_b3 kn_z))), (v3, .inl (cI, 16, .inl (upd (upd (upd (upd (upd (upd (upd (upd (upd (upd (upd (upd (upd (upd (upd (upd kn_z 0 155) 1 155) 2 123) 3 252) 4 209) 5 129) 6 60) 7 185) 8 93) 9 11) 10 54) 11 24) 12 244) 13 15) 14 81) 15 34)))] H := hP
              have hD : va_D A [(x3, .inr (0, [.ref x3k, .ref x3b, .ref x3o])), (x3k, .inl (cB, 32, .inl kn_k3)), (x3b, .inl (cB, 16, .inl kn_b3)), (x3o, .inl (cB, 16, .inl (sd_run true kn_k3 kn_b3 kn_z))), (v3, .inl (cI, 16, .inl (upd (upd (upd (upd (upd (upd (upd (upd (upd (upd (upd (upd (upd (upd (upd (upd kn_z 0 155) 1 155) 2 123) 3 252) 4 209) 5 129) 6 60) 7 185) 8 93) 9 11) 10 54) 11 24) 12 244) 13 15) 14 81) 15 34)))] := hD
              have hP : va_P D sCl [(x3, .inr (0, [.ref x3k, .ref x3b, .ref x3o])), (x3k, .inl (cB, 32, .inl kn_k3)), (x3b, .inl (cB, 16, .inl kn_b3)), (x3o, .inl (cB, 16, .inl (sd_run true kn_k3 kn_b3 kn_z))), (v3, .inl (cI, 16, .inl kn_v3))] H := hP
              have hD : va_D A [(x3, .inr (0, [.ref x3k, .ref x3b, .ref x3o])), (x3k, .inl (cB, 32, .inl kn_k3)), (x3b, .inl (cB, 16, .inl kn_b3)), (x3o, .inl (cB, 16, .inl (sd_run true kn_k3 kn_b3 kn_z))), (v3, .inl (cI, 16, .inl kn_v3))] := hD
              refine lv_astore (lv' := [(7, .ref v3), (6, .ref x3), (5, .ref v2), (4, .ref x2)]) hx hb dX0_known_684 hl (by decide) rfl (fun ls hl => ?_)
              refine lv_iconst (v := 0) hx hb dX0_known_686 (by decide) ?_
              refine tp_i (y := nI 0) rfl ?_
              refine lv_istore (lv' := [(8, .int (nI 0)), (7, .ref v3), (6, .ref x3), (5, .ref v2), (4, .ref x2)]) hx hb dX0_known_687 hl (by decide) rfl (fun ls hl => ?_)
              refine lp_pure (fun i ls => lv_has ls 9 [(8, .int (nI i)), (7, .ref v3), (6, .ref x3)]) 16 (fun i ls hi hl ih => ?_) (fun ls hl => ?_) (lv_sub hl [0, 1, 2] rfl)
              · refine lv_iload hx hb dX0_known_689 (lv_at hl 0 rfl) ?_
                refine lv_bipush (v := 16) hx hb dX0_known_691 (by decide) ?_
                refine lv_icmp_ge (tgt := 719) hx hb dX0_known_693 (by decide) (fun c0 => ?_) (fun c0 => ?_)
                · exact absurd c0 (nI_ge (by omega) (by omega) : ¬ nI 16 ≤ nI i)
                · refine lv_aload hx hb dX0_known_696 (lv_at hl 2 rfl) ?_
                  refine lv_iload hx hb dX0_known_698 (lv_at hl 0 rfl) ?_
                  refine cs_i (W.runV (As := [.int (nI i)]) (rest := []) ⟨hx, hb, hml, hown, hts⟩ (mt_out l D _ cB cI 0 3 x3 x3k x3b x3o i (sd_run true kn_k3 kn_b3 kn_z) rfl rfl hi) (cwV 1 hts (lw_V q320 q321 q322 q14 q323) rfl rfl rfl (by decide +kernel) ⟨Nat.le_of_ble_eq_true rfl, Nat.le_of_ble_eq_true rfl⟩) ⟨pu_blind, va_recv hK hP (ci := 0) (q0 := 0) rfl rfl, pu_at hP hK⟩ rfl rfl hl.1 rfl (lv_room (Nat.le_of_ble_eq_true rfl)) dX0_known_700 ⟨Nat.le_of_ble_eq_true rfl, Nat.le_of_ble_eq_true rfl⟩) ?_
                  refine lv_aload hx hb dX0_known_703 (lv_at hl 1 rfl) ?_
                  refine lv_iload hx hb dX0_known_705 (lv_at hl 0 rfl) ?_
                  refine va_iald hx hb hK hP 4 1 rfl rfl (vp_in_nI hi (by decide)) dX0_known_707 ?_
                  refine tp_i (y := kn_v3 i) (by rw [nI_clamp (by omega)]) ?_
                  refine lv_icmp_eq (tgt := 713) hx hb dX0_known_708 (by decide) (fun c1 => ?_) (fun c1 => ?_)
                  · refine lv_iinc (v := nI (i + 1)) (lv' := [(8, .int (nI (i + 1))), (7, .ref v3), (6, .ref x3)]) hx hb dX0_known_713 hl (k := 0) rfl (nI_inc i) (by decide) rfl (fun ls hl => ?_)
                    refine lv_goto (tgt := 689) hx hb dX0_known_716 (by decide) ?_
                    exact ih ls (lv_sub hl [0, 1, 2] rfl)
                  · exact absurd (kn_3 kn_z i hi) c1
              · refine lv_iload hx hb dX0_known_689 (lv_at hl 0 rfl) ?_
                refine lv_bipush (v := 16) hx hb dX0_known_691 (by decide) ?_
                refine lv_icmp_ge (tgt := 719) hx hb dX0_known_693 (by decide) (fun c0 => ?_) (fun c0 => ?_)
                · have hP := hP.sub (ws' := []) [] rfl
                  have hD := hD.sub (ws' := []) [] (by decide) rfl
                  refine lv_iconst (v := 1) hx hb dX0_known_719 (by decide) ?_
                  refine W.widen (k := 40) (n := 604) (Nat.le_of_ble_eq_true rfl) (Nat.le_of_ble_eq_true rfl) ?_
                  exact W.zret (v := 1) hx hb hr rfl (fun t ht hW => ⟨⟨1, (), rfl, rfl, trivial⟩, hS.F ht⟩) hS.2.2 dX0_known_720
                · exact absurd (by decide) c0
            · exact absurd (by decide) c0
        · exact absurd (by decide) c0
    · exact absurd (by decide) c0
end
section
/-! THE CLAIM: the start's tables and classes, the law's walk (whole_start; printed by w_whole.py), and the kit's skeleton around it -/
def nw_fl : List Cond := flatC (Jvm.Cond.and given_1 narrow_1)
abbrev nw_e (n : String) (f : Nat → Int32) (j : Nat) : Cond := .eq (.elem (.static "SEEDEngine" n "[I") (.int (Int32.ofNat j))) (.int (f j))
theorem ts_start {args : Array Value} {s : State} {A : Nat → Prop} (n : String) (N o : Nat) (f : Nat → Int32) (hN : N < 2 ^ 31) (hl : (Cond.laysStatic "SEEDEngine" n "[I").before args s = true) (hini : (Cond.initialized "SEEDEngine").before args s = true) (hgv : (Jvm.Cond.and given_1 narrow_1).before args s = true) (hA : ∀ a : Nat, a < s.heap.size → ¬ A a)
    (h1 : nw_fl[o]? = some (.arrayOf (.static "SEEDEngine" n "[I") .int)) (h2 : nw_fl[o + 1]? = some (.eq (.length (.static "SEEDEngine" n "[I")) (.int (Int32.ofNat N)))) (h3 : (nw_fl.drop (o + 2)).take N = (List.range N).map (nw_e n f)) : ts_T n N f A s s.heap := by
  have hs : ∀ c ∈ nw_fl, c.before args s = true := flat_of_before _ hgv
  have h4 : ∀ j, j < N → nw_e n f j ∈ nw_fl := fun j hj => by
    have h5 : nw_e n f j ∈ (nw_fl.drop (o + 2)).take N := by
      rw [h3]
      exact List.mem_map.mpr ⟨j, List.mem_range.mpr hj, rfl⟩
    exact List.mem_of_mem_drop (List.mem_of_mem_take h5)
  obtain ⟨t, ht, hT⟩ := va_Tof (f := fun j => .int (f j)) hN (hs _ (List.mem_of_getElem? h1)) (va_eqt (hs _ (List.mem_of_getElem? h2))) (fun j hj => va_eqt (hs _ (h4 j hj))) hA
  exact ⟨t, va_Zof hl hini ht hA, hT⟩
theorem nw_0 : (nw_fl.drop (26 + 2)).take 256 = (List.range 256).map (nw_e "SS0" sd_t0) := by decide +kernel
theorem nw_1 : (nw_fl.drop (285 + 2)).take 256 = (List.range 256).map (nw_e "SS1" sd_t1) := by decide +kernel
theorem nw_2 : (nw_fl.drop (544 + 2)).take 256 = (List.range 256).map (nw_e "SS2" sd_t2) := by decide +kernel
theorem nw_3 : (nw_fl.drop (803 + 2)).take 256 = (List.range 256).map (nw_e "SS3" sd_t3) := by decide +kernel
theorem nw_k : (nw_fl.drop (7 + 2)).take 16 = (List.range 16).map (nw_e "KC" sd_kc) := by decide +kernel
theorem tb_start {args : Array Value} {s : State} {A : Nat → Prop} (hts : ∀ w ∈ lw_tbl, w.before args s = true) (hgv : (Jvm.Cond.and given_1 narrow_1).before args s = true) (hA : ∀ a : Nat, a < s.heap.size → ¬ A a) : tb_ A s s.heap :=
  ⟨ts_start "SS0" 256 26 sd_t0 (by decide) (hts _ q182) (hts _ (lw_all_tbl q15)) hgv hA (by decide +kernel) (by decide +kernel) nw_0,
   ts_start "SS1" 256 285 sd_t1 (by decide) (hts _ q184) (hts _ (lw_all_tbl q15)) hgv hA (by decide +kernel) (by decide +kernel) nw_1,
   ts_start "SS2" 256 544 sd_t2 (by decide) (hts _ q186) (hts _ (lw_all_tbl q15)) hgv hA (by decide +kernel) (by decide +kernel) nw_2,
   ts_start "SS3" 256 803 sd_t3 (by decide) (hts _ q188) (hts _ (lw_all_tbl q15)) hgv hA (by decide +kernel) (by decide +kernel) nw_3,
   ts_start "KC" 16 7 sd_kc (by decide) (hts _ q176) (hts _ (lw_all_tbl q15)) hgv hA (by decide +kernel) (by decide +kernel) nw_k⟩
theorem ar_byte {args : Array Value} {s : State} (h : (Cond.arrayClass .byte).before args s = true) : ∃ cA : ClassId, ArrOfT s cA .byte ∧ va_RA s cA .byte := by
  obtain ⟨cA, kA, comp, h1, h2, h3⟩ := Cond.arrayClass_spec h
  exact ⟨cA, fun n z => ⟨fun k h => (by cases h), kA, h2, comp, h3⟩, h1⟩
theorem ar_int {args : Array Value} {s : State} (h : (Cond.arrayClass .int).before args s = true) : ∃ cA : ClassId, ArrOfT s cA .int ∧ va_RA s cA .int := by
  obtain ⟨cA, kA, comp, h1, h2, h3⟩ := Cond.arrayClass_spec h
  exact ⟨cA, fun n z => ⟨fun k h => (by cases h), kA, h2, comp, h3⟩, h1⟩
/-- the classes, known at the start -/
theorem cl_start {args : Array Value} {s : State} (hts : ∀ w ∈ lw_tbl, w.before args s = true) : ∃ (D : va_G) (cB cI : ClassId), va_K D sCl (tyBI cB cI) s := by
  obtain ⟨c0, iS0, hKn0⟩ := u_known (C := RX1) (T := TX1) (N := 3) (n := 3) hts (fun w h => lw_all_tbl (in_X1 w h)) (hts _ (lw_all_tbl q33))
  obtain ⟨c1, iS1, hKn1⟩ := u_known (C := RX2) (T := TX2) (N := 3) (n := 3) hts (fun w h => lw_all_tbl (in_X2 w h)) (hts _ (lw_all_tbl q39))
  obtain ⟨c2, iS2, hKn2⟩ := u_known (C := RX3) (T := TX3) (N := 1) (n := 1) hts (fun w h => lw_all_tbl (in_X3 w h)) (hts _ (lw_all_tbl q58))
  obtain ⟨cB, hB⟩ := ar_byte (hts _ (lw_all_tbl q56))
  obtain ⟨cI, hI⟩ := ar_int (hts _ (lw_all_tbl q222))
  refine ⟨(fun k => if k = 0 then c0 else if k = 1 then c1 else c2, fun k => if k = 0 then iS0 else if k = 1 then iS1 else iS2), cB, cI, ?_, ?_⟩
  · intro k q hq
    match k, hq with
    | 0, hq => cases hq; exact hKn0
    | 1, hq => cases hq; exact hKn1
    | 2, hq => cases hq; exact hKn2
    | k + 3, hq => simp at hq
  · intro k q hq
    match k, hq with
    | 0, hq => cases hq; exact hB
    | 1, hq => cases hq; exact hI
    | k + 2, hq => simp at hq
theorem wi_at (L : Nat) (xs : Nat → Int32) {i : Nat} (h : i < 16) : wi_b L xs i &&& 255 = sd_wb (cl_ L xs (8 + i / 4)) (i % 4) := sd_4w_at kn_z (fun q => cl_ L xs (8 + q)) h
end
section
/-! THE CLAIM OUT OF ONE WALK OF THE LAW'S BODY. Your part is whole_start (and what it stands on); all else here is the same for every law, but numbers. -/
def R_law : String := "SeedDeskLaw"
def lw_P (b : Addr) (xs : List Int32) (args : Array Value) (s : State) : Prop := args = #[.ref b] ∧ s.IntsAt b xs ∧ xs.length ≤ 12 ∧ (Jvm.Cond.and given_1 narrow_1).before args s = true
def lw_Q (_ : Array Value) (s : State) (o : Outcome) (t : State) : Prop := o = .returned (some (.int 1)) ∧ Framed s o t [] 600024 7302034
def lw_Z (below : List Frame) (a : Array Value) (s : State) : State → Prop := fun t => ∃ o, t.status = .running ∧ Ended t below o ∧ lw_Q a s o t
/-- the law's own end, with 1 on the stack, nothing written that was there before, its room as the claim has it -/
theorem lw_ret {p : Program} {l : Launch} {e : Env} {s : State} {m : MethodId} {below : List Frame} {meth : Method} {c : Code} {b : Nat} (hx : p.tables.exec = Jvm.exec) (hb : c.code = code) (hr : meth.sig.returnType = ret) (hlocks : meth.locks = false) {pc : Nat} {H : Heap} {ls : Array Slot} (hdg : decode code pc = .ok (.ireturn, 1)) : W p l e room_1 s m #[Value.ref b] below meth c H [] 600024 7302034 (lw_Z below #[Value.ref b] s) (F0 m pc ls [.int 1]) := by
  intro T hT X
  obtain ⟨fs, hret, hrun, hended, hW, hframe⟩ := X.leave (v := some (.int 1)) (hlocks := hlocks) (fun h => by rw [hr] at h; cases h)
  have hmeth' : T.vm.method? m = some meth := X.method'
  refine ⟨T.setFrames fs, ?_, .returned (some (.int 1)), hrun, hended, rfl, ⟨_, rfl⟩, hW, hframe⟩
  jvm_step X.here [X.here.top, hx, hb, hdg, hmeth', hr, ret, narrow_b1]
  (try refine ⟨rfl, ?_⟩); (try refine ⟨rfl, ?_⟩)
  first | (intro acts; rw [hret _ acts rfl rfl rfl]) | rw [hret _ _ rfl rfl rfl]
  exact Steps.refl _
/-- what holds at the law's entry: the machine, the code, the tables' words (any of lw_tbl by 'hts w (by decide +kernel)'), the script of L ints xs at the cell b, what the Statement gives of the start (any of its parts by flat_of_before) -/
def lw_At (p : Program) (s : State) (m : MethodId) (meth : Method) (c : Code) (b L : Nat) (xs : Nat → Int32) : Prop :=
  p.tables.exec = Jvm.exec ∧ c.code = code ∧ meth.sig.returnType = ret ∧ c.maxLocals = 8 ∧ s.vm.findClass R_law = some m.cls ∧ (∀ w ∈ lw_tbl, w.before #[Value.ref b] s = true) ∧ va_X b L xs s s.heap ∧ b < s.heap.size ∧ meth.locks = false ∧ (Jvm.Cond.and given_1 narrow_1).before #[Value.ref b] s = true
set_option maxHeartbeats 4000000 in
set_option maxRecDepth 100000 in
/-- THE LAW, from its entry -/
theorem whole_start {p : Program} {e : Env} {s : State} {m : MethodId} {below : List Frame} {meth : Method} {c : Code} (l : Launch) (hflags : l.flags = flags0) {b L : Nat} {xs : Nat → Int32} (hL : L ≤ 12) (C0 : lw_At p s m meth c b L xs) : W p l e room_1 s m #[Value.ref b] below meth c s.heap [] 0 0 (lw_Z below #[Value.ref b] s) (entryFrame m ([Value.ref b] : List Value).toArray 8) := by
  obtain ⟨hx, hb, hr, hml, hown, hts0, hX, hbl, hlocks, hgv⟩ := C0
  have hts : ∀ w ∈ lw_all, w.before #[Value.ref b] s = true := fun w h => hts0 w (lw_all_tbl h)
  obtain ⟨A, hAd⟩ : ∃ A : Nat → Prop, A = fun q : Nat => s.heap.size ≤ q := ⟨_, rfl⟩
  have hA : ∀ q : Nat, s.heap.size ≤ q → A q := fun q h => by rw [hAd]; exact h
  have hA2 : ∀ q : Nat, A q → s.heap.size ≤ q := fun q h => by rw [hAd] at h; exact h
  have hA3 : ∀ a : Nat, a < s.heap.size → ¬ A a := fun a h z => absurd (hA2 a z) (Nat.not_le.mpr h)
  have hbA : ¬ A b := hA3 b hbl
  clear hAd
  have hL : L < 2 ^ 31 := by omega
  obtain ⟨D, cB, cI, hK⟩ := cl_start hts0
  have hT : tb_ A s s.heap := tb_start hts0 hgv hA3
  have hI : if_ s := ⟨va_Fw.of (hts0 _ q79) (hts0 _ q78) (hts0 _ q84) (hts0 _ q82) (hts0 _ q80), va_Fw.of (hts0 _ q200) (hts0 _ q199) (hts0 _ q204) (hts0 _ q202) (hts0 _ q80)⟩
  have hS : va_S A s.heap s.heap [] := va_S.rf
  have hP : va_P D sCl [] s.heap := fun k q h => by simp at h
  have hD : va_D A [] := ⟨fun i j p q h => by simp at h, fun k q h => by simp at h⟩
  have hl := lv_entry ([.ref b]) (n := 8) (Nat.le_of_ble_eq_true rfl)
  rw [lg_entry_eq]
  generalize (lg_sl ([.ref b]) ++ List.replicate (8 - (lg_sl ([.ref b])).length) Slot.unset).toArray = ls at hl ⊢
  have hl : lv_has ls 8 [(0, .ref b)] := hl
  have hPc := hP.sub (ws' := []) [] rfl
  have hDc := hD.sub (ws' := []) [] (by decide) rfl
  have hFc := va_free (wc := []) hD hS hA [] rfl
  have hTc := tb_here hT hS hFc
  refine va_calli (va_runS (As := []) (rest := []) ⟨hx, hb, hml, hown, hts⟩ (mt_known l D cB cI _) (va_cwS 0 hts (lw_S q324 q325 q13 q326) rfl rfl rfl (by decide +kernel) ⟨Nat.le_of_ble_eq_true rfl, Nat.le_of_ble_eq_true rfl⟩) ⟨pz_blind, pz_at hPc hK hDc hTc hI⟩ rfl rfl hl.1 rfl (lv_room (Nat.le_of_ble_eq_true rfl)) dL_law_0 ⟨Nat.le_of_ble_eq_true rfl, Nat.le_of_ble_eq_true rfl⟩) hS (fun q _ h => hFc q h) hFc (fun r_ u_ t H locs ht hvm hw hB hz1 hk1 hS => ?_)
  have hw : r_ = 1 := hw
  rw [hw]
  have hP : va_P D sCl [] H := fun k q h => by simp at h
  have hD : va_D A [] := hD
  refine W.widen (k := 40) (n := 604) (Nat.le_of_ble_eq_true rfl) (Nat.le_of_ble_eq_true rfl) ?_
  refine lv_if_ne (tgt := 8) hx hb dL_law_3 (by decide) (fun c0 => ?_) (fun c0 => ?_)
  · refine lv_iconst (v := 1) hx hb dL_law_8 (by decide) ?_
    refine va_newa (atype := .int) (ty := .int) (a0 := (1, .inl kn_z)) hx hb (hts _ q222) rfl hK hP hD hS hA (fun _ => rfl) (by decide) (by decide) (Nat.le_of_ble_eq_true rfl) (Nat.le_of_ble_eq_true rfl) (Nat.le_of_ble_eq_true rfl) dL_law_9 (fun kq cA H hK2 hP hD hS => ?_)
    have hq := ty_sameI hK2
    rw [hq] at hP hD
    have hP : va_P D sCl [(kq, .inl (cI, 1, .inl kn_z))] H := hP
    have hD : va_D A [(kq, .inl (cI, 1, .inl kn_z))] := hD
    refine W.widen (k := 41) (n := 605) (Nat.le_of_ble_eq_true rfl) (Nat.le_of_ble_eq_true rfl) ?_
    refine lv_dup hx hb dL_law_11 rfl ?_
    refine lv_iconst (v := 0) hx hb dL_law_12 (by decide) ?_
    refine lv_iconst (v := 0) hx hb dL_law_13 (by decide) ?_
    refine va_iast hx hb hK hP hD hS 0 1 rfl rfl (show vp_in (nI 0) 1 from vp_in_nI (by decide) (by decide)) dL_law_14 (fun H locs hP hD hS => ?_)
    have hP : va_P D sCl [(kq, .inl (cI, 1, .inl (upd kn_z 0 0)))] H := hP
    have hD : va_D A [(kq, .inl (cI, 1, .inl (upd kn_z 0 0)))] := hD
    refine lv_astore_n (lv' := [(1, .ref kq), (0, .ref b)]) hx hb dL_law_15 rfl hl (by decide) rfl (fun ls hl => ?_)
    refine lv_aload_n hx hb dL_law_16 rfl (lv_at hl 0 rfl) ?_
    refine lv_astore_n (lv' := [(2, .ref kq), (1, .ref kq), (0, .ref b)]) hx hb dL_law_17 rfl hl (by decide) rfl (fun ls hl => ?_)
    refine lv_aload_n hx hb dL_law_18 rfl (lv_at hl 0 rfl) ?_
    refine va_alen (v := 1) hx hb hK hP 0 1 rfl rfl rfl dL_law_19 ?_
    refine lv_istore_n (lv' := [(3, .int 1), (2, .ref kq), (1, .ref kq), (0, .ref b)]) hx hb dL_law_20 rfl hl (by decide) rfl (fun ls hl => ?_)
    refine lv_iconst (v := 0) hx hb dL_law_21 (by decide) ?_
    refine lv_istore (lv' := [(4, .int 0), (3, .int 1), (2, .ref kq), (1, .ref kq), (0, .ref b)]) hx hb dL_law_22 hl (by decide) rfl (fun ls hl => ?_)
    refine lv_iload hx hb dL_law_24 (lv_at hl 0 rfl) ?_
    refine lv_iload_n hx hb dL_law_26 rfl (lv_at hl 1 rfl) ?_
    refine lv_icmp_ge (tgt := 112) hx hb dL_law_27 (by decide) (fun c1 => ?_) (fun c1 => ?_)
    · exact absurd c1 (by decide)
    · refine lv_aload_n hx hb dL_law_30 rfl (lv_at hl 2 rfl) ?_
      refine lv_iload hx hb dL_law_31 (lv_at hl 0 rfl) ?_
      refine va_iald hx hb hK hP 0 1 rfl rfl (show vp_in (nI 0) 1 from vp_in_nI (by decide) (by decide)) dL_law_33 ?_
      refine tp_i (y := 0) (by decide) ?_
      refine lv_istore (lv' := [(5, .int 0), (4, .int 0), (3, .int 1), (2, .ref kq), (1, .ref kq), (0, .ref b)]) hx hb dL_law_34 hl (by decide) rfl (fun ls hl => ?_)
      refine lv_aload_n hx hb dL_law_36 rfl (lv_at hl 5 rfl) ?_
      have hPc := hP.sub (ws' := []) [] rfl
      have hDc := hD.sub (ws' := []) [] (by decide) rfl
      have hFc := va_free (wc := []) hD hS hA [] rfl
      refine va_callr (va_runS (As := [.ref b]) (rest := []) ⟨hx, hb, hml, hown, hts⟩ (mt_with l D cB cI b L _ xs hL) (va_cwS 1 hts (lw_S q285 q286 q13 q287) rfl rfl rfl (by decide +kernel) ⟨Nat.le_of_ble_eq_true rfl, Nat.le_of_ble_eq_true rfl⟩) ⟨pw_blind, pw_at hPc hK hDc (va_X.kept hX (hS.2.1 b hbl hbA))⟩ rfl rfl hl.1 rfl (lv_room (Nat.le_of_ble_eq_true rfl)) dL_law_37 ⟨Nat.le_of_ble_eq_true rfl, Nat.le_of_ble_eq_true rfl⟩) hS (fun q _ h => hFc q h) hFc (fun uu x t H locs ht hvm hw hB hz1 hk1 hS => ?_)
      obtain ⟨xk, xb, xo⟩ := uu
      obtain ⟨hP1, hD1⟩ := hB
      rw [ht] at hP1
      obtain ⟨hP, hD⟩ := va_join (wr := [(kq, .inl (cI, 1, .inl (upd kn_z 0 0)))]) (w1 := [(x, .inr (0, [.ref xk, .ref xb, .ref xo])), (xk, .inl (cB, 32, .inl (wi_k L xs))), (xb, .inl (cB, 16, .inl (wi_b L xs))), (xo, .inl (cB, 16, .inl kn_z))]) hP hD [] [0] rfl rfl (by decide) (by decide) hk1 hFc hP1 hD1
      have hP := hP.sub (ws' := [(kq, .inl (cI, 1, .inl (upd kn_z 0 0))), (x, .inr (0, [.ref xk, .ref xb, .ref xo])), (xk, .inl (cB, 32, .inl (wi_k L xs))), (xb, .inl (cB, 16, .inl (wi_b L xs))), (xo, .inl (cB, 16, .inl kn_z))]) [0, 1, 2, 3, 4] rfl
      have hD := hD.sub (ws' := [(kq, .inl (cI, 1, .inl (upd kn_z 0 0))), (x, .inr (0, [.ref xk, .ref xb, .ref xo])), (xk, .inl (cB, 32, .inl (wi_k L xs))), (xb, .inl (cB, 16, .inl (wi_b L xs))), (xo, .inl (cB, 16, .inl kn_z))]) [0, 1, 2, 3, 4] (by decide) rfl
      refine W.widen (k := 45) (n := 672) (Nat.le_of_ble_eq_true rfl) (Nat.le_of_ble_eq_true rfl) ?_
      refine lv_astore (lv' := [(6, .ref x), (5, .int 0), (4, .int 0), (3, .int 1), (2, .ref kq), (1, .ref kq), (0, .ref b)]) hx hb dL_law_40 hl (by decide) rfl (fun ls hl => ?_)
      refine lv_aload_n hx hb dL_law_42 rfl (lv_at hl 6 rfl) ?_
      have hPc := hP.sub (ws' := []) [] rfl
      have hDc := hD.sub (ws' := []) [] (by decide) rfl
      have hFc := va_free (wc := []) hD hS hA [] rfl
      refine va_callr (va_runS (As := [.ref b]) (rest := []) ⟨hx, hb, hml, hown, hts⟩ (mt_with l D cB cI b L _ xs hL) (va_cwS 1 hts (lw_S q285 q286 q13 q287) rfl rfl rfl (by decide +kernel) ⟨Nat.le_of_ble_eq_true rfl, Nat.le_of_ble_eq_true rfl⟩) ⟨pw_blind, pw_at hPc hK hDc (va_X.kept hX (hS.2.1 b hbl hbA))⟩ rfl rfl hl.1 rfl (lv_room (Nat.le_of_ble_eq_true rfl)) dL_law_43 ⟨Nat.le_of_ble_eq_true rfl, Nat.le_of_ble_eq_true rfl⟩) hS (fun q _ h => hFc q h) hFc (fun uu y t H locs ht hvm hw hB hz1 hk1 hS => ?_)
      obtain ⟨yk, yb, yo⟩ := uu
      obtain ⟨hP1, hD1⟩ := hB
      rw [ht] at hP1
      obtain ⟨hP, hD⟩ := va_join (wr := [(kq, .inl (cI, 1, .inl (upd kn_z 0 0))), (x, .inr (0, [.ref xk, .ref xb, .ref xo])), (xk, .inl (cB, 32, .inl (wi_k L xs))), (xb, .inl (cB, 16, .inl (wi_b L xs))), (xo, .inl (cB, 16, .inl kn_z))]) (w1 := [(y, .inr (0, [.ref yk, .ref yb, .ref yo])), (yk, .inl (cB, 32, .inl (wi_k L xs))), (yb, .inl (cB, 16, .inl (wi_b L xs))), (yo, .inl (cB, 16, .inl kn_z))]) hP hD [] [0, 1, 2, 3, 4] rfl rfl (by decide) (by decide) hk1 hFc hP1 hD1
      have hP := hP.sub (ws' := [(kq, .inl (cI, 1, .inl (upd kn_z 0 0))), (x, .inr (0, [.ref xk, .ref xb, .ref xo])), (xk, .inl (cB, 32, .inl (wi_k L xs))), (xb, .inl (cB, 16, .inl (wi_b L xs))), (xo, .inl (cB, 16, .inl kn_z)), (y, .inr (0, [.ref yk, .ref yb, .ref yo])), (yk, .inl (cB, 32, .inl (wi_k L xs))), (yb, .inl (cB, 16, .inl (wi_b L xs))), (yo, .inl (cB, 16, .inl kn_z))]) [0, 1, 2, 3, 4, 5, 6, 7, 8] rfl
      have hD := hD.sub (ws' := [(kq, .inl (cI, 1, .inl (upd kn_z 0 0))), (x, .inr (0, [.ref xk, .ref xb, .ref xo])), (xk, .inl (cB, 32, .inl (wi_k L xs))), (xb, .inl (cB, 16, .inl (wi_b L xs))), (xo, .inl (cB, 16, .inl kn_z)), (y, .inr (0, [.ref yk, .ref yb, .ref yo])), (yk, .inl (cB, 32, .inl (wi_k L xs))), (yb, .inl (cB, 16, .inl (wi_b L xs))), (yo, .inl (cB, 16, .inl kn_z))]) [0, 1, 2, 3, 4, 5, 6, 7, 8] (by decide) rfl
      refine W.widen (k := 49) (n := 739) (Nat.le_of_ble_eq_true rfl) (Nat.le_of_ble_eq_true rfl) ?_
      refine lv_astore (lv' := [(7, .ref y), (6, .ref x), (5, .int 0), (4, .int 0), (3, .int 1), (2, .ref kq), (1, .ref kq), (0, .ref b)]) hx hb dL_law_46 hl (by decide) rfl (fun ls hl => ?_)
      refine lv_aload hx hb dL_law_48 (lv_at hl 1 rfl) ?_
      refine lv_iload hx hb dL_law_50 (lv_at hl 2 rfl) ?_
      have hPc := hP.sub (ws' := [(x, .inr (0, [.ref xk, .ref xb, .ref xo])), (xk, .inl (cB, 32, .inl (wi_k L xs))), (xb, .inl (cB, 16, .inl (wi_b L xs))), (xo, .inl (cB, 16, .inl kn_z))]) [1, 2, 3, 4] rfl
      have hDc := hD.sub (ws' := [(x, .inr (0, [.ref xk, .ref xb, .ref xo])), (xk, .inl (cB, 32, .inl (wi_k L xs))), (xb, .inl (cB, 16, .inl (wi_b L xs))), (xo, .inl (cB, 16, .inl kn_z))]) [1, 2, 3, 4] (by decide) rfl
      have hFc := va_free (wc := [(x, .inr (0, [.ref xk, .ref xb, .ref xo])), (xk, .inl (cB, 32, .inl (wi_k L xs))), (xb, .inl (cB, 16, .inl (wi_b L xs))), (xo, .inl (cB, 16, .inl kn_z))]) hD hS hA [1, 2, 3, 4] rfl
      have hTc := tb_here hT hS hFc
      refine va_callv (va_runV (As := [.int 0]) (rest := []) ⟨hx, hb, hml, hown, hts⟩ (mt_lock l D cB cI x xk xb xo _ (wi_k L xs) (wi_b L xs) kn_z 0) (cwV 1 hts (lw_V q26 q27 q28 q14 q29) rfl rfl rfl (by decide +kernel) ⟨Nat.le_of_ble_eq_true rfl, Nat.le_of_ble_eq_true rfl⟩) ⟨pz_blind, va_recv hK hP (ci := 0) (q0 := 1) rfl rfl, pz_at hPc hK hDc hTc hI⟩ rfl rfl hl.1 rfl (lv_room (Nat.le_of_ble_eq_true rfl)) dL_law_52 ⟨Nat.le_of_ble_eq_true rfl, Nat.le_of_ble_eq_true rfl⟩) hS (fun q _ h => hFc q h) hFc (fun u_ t H locs ht hvm hw hB hz1 hk1 hS => ?_)
      obtain ⟨hP1, hD1⟩ := hB
      rw [ht] at hP1
      obtain ⟨hP, hD⟩ := va_join (wr := [(kq, .inl (cI, 1, .inl (upd kn_z 0 0))), (y, .inr (0, [.ref yk, .ref yb, .ref yo])), (yk, .inl (cB, 32, .inl (wi_k L xs))), (yb, .inl (cB, 16, .inl (wi_b L xs))), (yo, .inl (cB, 16, .inl kn_z))]) (w1 := [(x, .inr (0, [.ref xk, .ref xb, .ref xo])), (xk, .inl (cB, 32, .inl (wi_k L xs))), (xb, .inl (cB, 16, .inl (wi_b L xs))), (xo, .inl (cB, 16, .inl (sd_run true (wi_k L xs) (wi_b L xs) kn_z)))]) hP hD [1, 2, 3, 4] [0, 5, 6, 7, 8] rfl rfl (by decide) (by decide) hk1 hFc hP1 hD1
      have hP := hP.sub (ws' := [(kq, .inl (cI, 1, .inl (upd kn_z 0 0))), (x, .inr (0, [.ref xk, .ref xb, .ref xo])), (xk, .inl (cB, 32, .inl (wi_k L xs))), (xb, .inl (cB, 16, .inl (wi_b L xs))), (xo, .inl (cB, 16, .inl (sd_run true (wi_k L xs) (wi_b L xs) kn_z))), (y, .inr (0, [.ref yk, .ref yb, .ref yo])), (yk, .inl (cB, 32, .inl (wi_k L xs))), (yb, .inl (cB, 16, .inl (wi_b L xs))), (yo, .inl (cB, 16, .inl kn_z))]) [0, 5, 6, 7, 8, 1, 2, 3, 4] rfl
      have hD := hD.sub (ws' := [(kq, .inl (cI, 1, .inl (upd kn_z 0 0))), (x, .inr (0, [.ref xk, .ref xb, .ref xo])), (xk, .inl (cB, 32, .inl (wi_k L xs))), (xb, .inl (cB, 16, .inl (wi_b L xs))), (xo, .inl (cB, 16, .inl (sd_run true (wi_k L xs) (wi_b L xs) kn_z))), (y, .inr (0, [.ref yk, .ref yb, .ref yo])), (yk, .inl (cB, 32, .inl (wi_k L xs))), (yb, .inl (cB, 16, .inl (wi_b L xs))), (yo, .inl (cB, 16, .inl kn_z))]) [0, 5, 6, 7, 8, 1, 2, 3, 4] (by decide) rfl
      refine W.widen (k := 54) (n := 807) (Nat.le_of_ble_eq_true rfl) (Nat.le_of_ble_eq_true rfl) ?_
      refine lv_aload hx hb dL_law_55 (lv_at hl 0 rfl) ?_
      refine lv_iload hx hb dL_law_57 (lv_at hl 2 rfl) ?_
      have hPc := hP.sub (ws' := [(y, .inr (0, [.ref yk, .ref yb, .ref yo])), (yk, .inl (cB, 32, .inl (wi_k L xs))), (yb, .inl (cB, 16, .inl (wi_b L xs))), (yo, .inl (cB, 16, .inl kn_z))]) [5, 6, 7, 8] rfl
      have hDc := hD.sub (ws' := [(y, .inr (0, [.ref yk, .ref yb, .ref yo])), (yk, .inl (cB, 32, .inl (wi_k L xs))), (yb, .inl (cB, 16, .inl (wi_b L xs))), (yo, .inl (cB, 16, .inl kn_z))]) [5, 6, 7, 8] (by decide) rfl
      have hFc := va_free (wc := [(y, .inr (0, [.ref yk, .ref yb, .ref yo])), (yk, .inl (cB, 32, .inl (wi_k L xs))), (yb, .inl (cB, 16, .inl (wi_b L xs))), (yo, .inl (cB, 16, .inl kn_z))]) hD hS hA [5, 6, 7, 8] rfl
      have hTc := tb_here hT hS hFc
      refine va_callv (va_runV (As := [.int 0]) (rest := []) ⟨hx, hb, hml, hown, hts⟩ (mt_open l D cB cI y yk yb yo _ (wi_k L xs) (wi_b L xs) kn_z 0) (cwV 1 hts (lw_V q277 q278 q279 q14 q280) rfl rfl rfl (by decide +kernel) ⟨Nat.le_of_ble_eq_true rfl, Nat.le_of_ble_eq_true rfl⟩) ⟨pz_blind, va_recv hK hP (ci := 0) (q0 := 5) rfl rfl, pz_at hPc hK hDc hTc hI⟩ rfl rfl hl.1 rfl (lv_room (Nat.le_of_ble_eq_true rfl)) dL_law_59 ⟨Nat.le_of_ble_eq_true rfl, Nat.le_of_ble_eq_true rfl⟩) hS (fun q _ h => hFc q h) hFc (fun u_ t H locs ht hvm hw hB hz1 hk1 hS => ?_)
      obtain ⟨hP1, hD1⟩ := hB
      rw [ht] at hP1
      obtain ⟨hP, hD⟩ := va_join (wr := [(kq, .inl (cI, 1, .inl (upd kn_z 0 0))), (x, .inr (0, [.ref xk, .ref xb, .ref xo])), (xk, .inl (cB, 32, .inl (wi_k L xs))), (xb, .inl (cB, 16, .inl (wi_b L xs))), (xo, .inl (cB, 16, .inl (sd_run true (wi_k L xs) (wi_b L xs) kn_z)))]) (w1 := [(y, .inr (0, [.ref yk, .ref yb, .ref yo])), (yk, .inl (cB, 32, .inl (wi_k L xs))), (yb, .inl (cB, 16, .inl (wi_b L xs))), (yo, .inl (cB, 16, .inl (sd_run false (wi_k L xs) (wi_b L xs) kn_z)))]) hP hD [5, 6, 7, 8] [0, 1, 2, 3, 4] rfl rfl (by decide) (by decide) hk1 hFc hP1 hD1
      have hP := hP.sub (ws' := [(kq, .inl (cI, 1, .inl (upd kn_z 0 0))), (x, .inr (0, [.ref xk, .ref xb, .ref xo])), (xk, .inl (cB, 32, .inl (wi_k L xs))), (xb, .inl (cB, 16, .inl (wi_b L xs))), (xo, .inl (cB, 16, .inl (sd_run true (wi_k L xs) (wi_b L xs) kn_z))), (y, .inr (0, [.ref yk, .ref yb, .ref yo])), (yk, .inl (cB, 32, .inl (wi_k L xs))), (yb, .inl (cB, 16, .inl (wi_b L xs))), (yo, .inl (cB, 16, .inl (sd_run false (wi_k L xs) (wi_b L xs) kn_z)))]) [0, 1, 2, 3, 4, 5, 6, 7, 8] rfl
      have hD := hD.sub (ws' := [(kq, .inl (cI, 1, .inl (upd kn_z 0 0))), (x, .inr (0, [.ref xk, .ref xb, .ref xo])), (xk, .inl (cB, 32, .inl (wi_k L xs))), (xb, .inl (cB, 16, .inl (wi_b L xs))), (xo, .inl (cB, 16, .inl (sd_run true (wi_k L xs) (wi_b L xs) kn_z))), (y, .inr (0, [.ref yk, .ref yb, .ref yo])), (yk, .inl (cB, 32, .inl (wi_k L xs))), (yb, .inl (cB, 16, .inl (wi_b L xs))), (yo, .inl (cB, 16, .inl (sd_run false (wi_k L xs) (wi_b L xs) kn_z)))]) [0, 1, 2, 3, 4, 5, 6, 7, 8] (by decide) rfl
      refine W.widen (k := 59) (n := 875) (Nat.le_of_ble_eq_true rfl) (Nat.le_of_ble_eq_true rfl) ?_
      refine lv_aload hx hb dL_law_62 (lv_at hl 1 rfl) ?_
      have hPc := hP.sub (ws' := [(x, .inr (0, [.ref xk, .ref xb, .ref xo])), (xb, .inl (cB, 16, .inl (wi_b L xs))), (xo, .inl (cB, 16, .inl (sd_run true (wi_k L xs) (wi_b L xs) kn_z)))]) [1, 3, 4] rfl
      have hDc := hD.sub (ws' := [(x, .inr (0, [.ref xk, .ref xb, .ref xo])), (xb, .inl (cB, 16, .inl (wi_b L xs))), (xo, .inl (cB, 16, .inl (sd_run true (wi_k L xs) (wi_b L xs) kn_z)))]) [1, 3, 4] (by decide) rfl
      have hFc := va_free (wc := [(x, .inr (0, [.ref xk, .ref xb, .ref xo])), (xb, .inl (cB, 16, .inl (wi_b L xs))), (xo, .inl (cB, 16, .inl (sd_run true (wi_k L xs) (wi_b L xs) kn_z)))]) hD hS hA [1, 3, 4] rfl
      refine va_callv (va_runV (As := []) (rest := []) ⟨hx, hb, hml, hown, hts⟩ (mt_ag l D cB cI x xk xb xo _ (wi_b L xs) (sd_run true (wi_k L xs) (wi_b L xs) kn_z)) (cwV 0 hts (lw_V q281 q282 q283 q14 q284) rfl rfl rfl (by decide +kernel) ⟨Nat.le_of_ble_eq_true rfl, Nat.le_of_ble_eq_true rfl⟩) ⟨px_blind, va_recv hK hP (ci := 0) (q0 := 1) rfl rfl, px_at hPc hK hDc⟩ rfl rfl hl.1 rfl (lv_room (Nat.le_of_ble_eq_true rfl)) dL_law_64 ⟨Nat.le_of_ble_eq_true rfl, Nat.le_of_ble_eq_true rfl⟩) hS (fun q _ h => hFc q h) hFc (fun u_ t H locs ht hvm hw hB hz1 hk1 hS => ?_)
      obtain ⟨hP1, hD1⟩ := hB
      rw [ht] at hP1
      obtain ⟨hP, hD⟩ := va_join (wr := [(kq, .inl (cI, 1, .inl (upd kn_z 0 0))), (xk, .inl (cB, 32, .inl (wi_k L xs))), (y, .inr (0, [.ref yk, .ref yb, .ref yo])), (yk, .inl (cB, 32, .inl (wi_k L xs))), (yb, .inl (cB, 16, .inl (wi_b L xs))), (yo, .inl (cB, 16, .inl (sd_run false (wi_k L xs) (wi_b L xs) kn_z)))]) (w1 := [(x, .inr (0, [.ref xk, .ref xb, .ref xo])), (xb, .inl (cB, 16, .inl (sd_again (sd_run true (wi_k L xs) (wi_b L xs) kn_z) (wi_b L xs) 16))), (xo, .inl (cB, 16, .inl (sd_run true (wi_k L xs) (wi_b L xs) kn_z)))]) hP hD [1, 3, 4] [0, 2, 5, 6, 7, 8] rfl rfl (by decide) (by decide) hk1 hFc hP1 hD1
      have hP := hP.sub (ws' := [(kq, .inl (cI, 1, .inl (upd kn_z 0 0))), (x, .inr (0, [.ref xk, .ref xb, .ref xo])), (xk, .inl (cB, 32, .inl (wi_k L xs))), (xb, .inl (cB, 16, .inl (sd_again (sd_run true (wi_k L xs) (wi_b L xs) kn_z) (wi_b L xs) 16))), (xo, .inl (cB, 16, .inl (sd_run true (wi_k L xs) (wi_b L xs) kn_z))), (y, .inr (0, [.ref yk, .ref yb, .ref yo])), (yk, .inl (cB, 32, .inl (wi_k L xs))), (yb, .inl (cB, 16, .inl (wi_b L xs))), (yo, .inl (cB, 16, .inl (sd_run false (wi_k L xs) (wi_b L xs) kn_z)))]) [0, 6, 1, 7, 8, 2, 3, 4, 5] rfl
      have hD := hD.sub (ws' := [(kq, .inl (cI, 1, .inl (upd kn_z 0 0))), (x, .inr (0, [.ref xk, .ref xb, .ref xo])), (xk, .inl (cB, 32, .inl (wi_k L xs))), (xb, .inl (cB, 16, .inl (sd_again (sd_run true (wi_k L xs) (wi_b L xs) kn_z) (wi_b L xs) 16))), (xo, .inl (cB, 16, .inl (sd_run true (wi_k L xs) (wi_b L xs) kn_z))), (y, .inr (0, [.ref yk, .ref yb, .ref yo])), (yk, .inl (cB, 32, .inl (wi_k L xs))), (yb, .inl (cB, 16, .inl (wi_b L xs))), (yo, .inl (cB, 16, .inl (sd_run false (wi_k L xs) (wi_b L xs) kn_z)))]) [0, 6, 1, 7, 8, 2, 3, 4, 5] (by decide) rfl
      refine lv_aload hx hb dL_law_67 (lv_at hl 1 rfl) ?_
      refine lv_iload hx hb dL_law_69 (lv_at hl 2 rfl) ?_
      have hPc := hP.sub (ws' := [(x, .inr (0, [.ref xk, .ref xb, .ref xo])), (xk, .inl (cB, 32, .inl (wi_k L xs))), (xb, .inl (cB, 16, .inl (sd_again (sd_run true (wi_k L xs) (wi_b L xs) kn_z) (wi_b L xs) 16))), (xo, .inl (cB, 16, .inl (sd_run true (wi_k L xs) (wi_b L xs) kn_z)))]) [1, 2, 3, 4] rfl
      have hDc := hD.sub (ws' := [(x, .inr (0, [.ref xk, .ref xb, .ref xo])), (xk, .inl (cB, 32, .inl (wi_k L xs))), (xb, .inl (cB, 16, .inl (sd_again (sd_run true (wi_k L xs) (wi_b L xs) kn_z) (wi_b L xs) 16))), (xo, .inl (cB, 16, .inl (sd_run true (wi_k L xs) (wi_b L xs) kn_z)))]) [1, 2, 3, 4] (by decide) rfl
      have hFc := va_free (wc := [(x, .inr (0, [.ref xk, .ref xb, .ref xo])), (xk, .inl (cB, 32, .inl (wi_k L xs))), (xb, .inl (cB, 16, .inl (sd_again (sd_run true (wi_k L xs) (wi_b L xs) kn_z) (wi_b L xs) 16))), (xo, .inl (cB, 16, .inl (sd_run true (wi_k L xs) (wi_b L xs) kn_z)))]) hD hS hA [1, 2, 3, 4] rfl
      have hTc := tb_here hT hS hFc
      refine va_callv (va_runV (As := [.int 0]) (rest := []) ⟨hx, hb, hml, hown, hts⟩ (mt_open l D cB cI x xk xb xo _ (wi_k L xs) (sd_again (sd_run true (wi_k L xs) (wi_b L xs) kn_z) (wi_b L xs) 16) (sd_run true (wi_k L xs) (wi_b L xs) kn_z) 0) (cwV 1 hts (lw_V q277 q278 q279 q14 q280) rfl rfl rfl (by decide +kernel) ⟨Nat.le_of_ble_eq_true rfl, Nat.le_of_ble_eq_true rfl⟩) ⟨pz_blind, va_recv hK hP (ci := 0) (q0 := 1) rfl rfl, pz_at hPc hK hDc hTc hI⟩ rfl rfl hl.1 rfl (lv_room (Nat.le_of_ble_eq_true rfl)) dL_law_71 ⟨Nat.le_of_ble_eq_true rfl, Nat.le_of_ble_eq_true rfl⟩) hS (fun q _ h => hFc q h) hFc (fun u_ t H locs ht hvm hw hB hz1 hk1 hS => ?_)
      obtain ⟨hP1, hD1⟩ := hB
      rw [ht] at hP1
      obtain ⟨hP, hD⟩ := va_join (wr := [(kq, .inl (cI, 1, .inl (upd kn_z 0 0))), (y, .inr (0, [.ref yk, .ref yb, .ref yo])), (yk, .inl (cB, 32, .inl (wi_k L xs))), (yb, .inl (cB, 16, .inl (wi_b L xs))), (yo, .inl (cB, 16, .inl (sd_run false (wi_k L xs) (wi_b L xs) kn_z)))]) (w1 := [(x, .inr (0, [.ref xk, .ref xb, .ref xo])), (xk, .inl (cB, 32, .inl (wi_k L xs))), (xb, .inl (cB, 16, .inl (sd_again (sd_run true (wi_k L xs) (wi_b L xs) kn_z) (wi_b L xs) 16))), (xo, .inl (cB, 16, .inl (sd_run false (wi_k L xs) (sd_again (sd_run true (wi_k L xs) (wi_b L xs) kn_z) (wi_b L xs) 16) (sd_run true (wi_k L xs) (wi_b L xs) kn_z))))]) hP hD [1, 2, 3, 4] [0, 5, 6, 7, 8] rfl rfl (by decide) (by decide) hk1 hFc hP1 hD1
      have hP := hP.sub (ws' := [(kq, .inl (cI, 1, .inl (upd kn_z 0 0))), (x, .inr (0, [.ref xk, .ref xb, .ref xo])), (xk, .inl (cB, 32, .inl (wi_k L xs))), (xb, .inl (cB, 16, .inl (sd_again (sd_run true (wi_k L xs) (wi_b L xs) kn_z) (wi_b L xs) 16))), (xo, .inl (cB, 16, .inl (sd_run false (wi_k L xs) (sd_again (sd_run true (wi_k L xs) (wi_b L xs) kn_z) (wi_b L xs) 16) (sd_run true (wi_k L xs) (wi_b L xs) kn_z)))), (y, .inr (0, [.ref yk, .ref yb, .ref yo])), (yk, .inl (cB, 32, .inl (wi_k L xs))), (yb, .inl (cB, 16, .inl (wi_b L xs))), (yo, .inl (cB, 16, .inl (sd_run false (wi_k L xs) (wi_b L xs) kn_z)))]) [0, 5, 6, 7, 8, 1, 2, 3, 4] rfl
      have hD := hD.sub (ws' := [(kq, .inl (cI, 1, .inl (upd kn_z 0 0))), (x, .inr (0, [.ref xk, .ref xb, .ref xo])), (xk, .inl (cB, 32, .inl (wi_k L xs))), (xb, .inl (cB, 16, .inl (sd_again (sd_run true (wi_k L xs) (wi_b L xs) kn_z) (wi_b L xs) 16))), (xo, .inl (cB, 16, .inl (sd_run false (wi_k L xs) (sd_again (sd_run true (wi_k L xs) (wi_b L xs) kn_z) (wi_b L xs) 16) (sd_run true (wi_k L xs) (wi_b L xs) kn_z)))), (y, .inr (0, [.ref yk, .ref yb, .ref yo])), (yk, .inl (cB, 32, .inl (wi_k L xs))), (yb, .inl (cB, 16, .inl (wi_b L xs))), (yo, .inl (cB, 16, .inl (sd_run false (wi_k L xs) (wi_b L xs) kn_z)))]) [0, 5, 6, 7, 8, 1, 2, 3, 4] (by decide) rfl
      refine W.widen (k := 64) (n := 943) (Nat.le_of_ble_eq_true rfl) (Nat.le_of_ble_eq_true rfl) ?_
      refine lv_aload hx hb dL_law_74 (lv_at hl 0 rfl) ?_
      have hPc := hP.sub (ws' := [(y, .inr (0, [.ref yk, .ref yb, .ref yo])), (yb, .inl (cB, 16, .inl (wi_b L xs))), (yo, .inl (cB, 16, .inl (sd_run false (wi_k L xs) (wi_b L xs) kn_z)))]) [5, 7, 8] rfl
      have hDc := hD.sub (ws' := [(y, .inr (0, [.ref yk, .ref yb, .ref yo])), (yb, .inl (cB, 16, .inl (wi_b L xs))), (yo, .inl (cB, 16, .inl (sd_run false (wi_k L xs) (wi_b L xs) kn_z)))]) [5, 7, 8] (by decide) rfl
      have hFc := va_free (wc := [(y, .inr (0, [.ref yk, .ref yb, .ref yo])), (yb, .inl (cB, 16, .inl (wi_b L xs))), (yo, .inl (cB, 16, .inl (sd_run false (wi_k L xs) (wi_b L xs) kn_z)))]) hD hS hA [5, 7, 8] rfl
      refine va_callv (va_runV (As := []) (rest := []) ⟨hx, hb, hml, hown, hts⟩ (mt_ag l D cB cI y yk yb yo _ (wi_b L xs) (sd_run false (wi_k L xs) (wi_b L xs) kn_z)) (cwV 0 hts (lw_V q281 q282 q283 q14 q284) rfl rfl rfl (by decide +kernel) ⟨Nat.le_of_ble_eq_true rfl, Nat.le_of_ble_eq_true rfl⟩) ⟨px_blind, va_recv hK hP (ci := 0) (q0 := 5) rfl rfl, px_at hPc hK hDc⟩ rfl rfl hl.1 rfl (lv_room (Nat.le_of_ble_eq_true rfl)) dL_law_76 ⟨Nat.le_of_ble_eq_true rfl, Nat.le_of_ble_eq_true rfl⟩) hS (fun q _ h => hFc q h) hFc (fun u_ t H locs ht hvm hw hB hz1 hk1 hS => ?_)
      obtain ⟨hP1, hD1⟩ := hB
      rw [ht] at hP1
      obtain ⟨hP, hD⟩ := va_join (wr := [(kq, .inl (cI, 1, .inl (upd kn_z 0 0))), (x, .inr (0, [.ref xk, .ref xb, .ref xo])), (xk, .inl (cB, 32, .inl (wi_k L xs))), (xb, .inl (cB, 16, .inl (sd_again (sd_run true (wi_k L xs) (wi_b L xs) kn_z) (wi_b L xs) 16))), (xo, .inl (cB, 16, .inl (sd_run false (wi_k L xs) (sd_again (sd_run true (wi_k L xs) (wi_b L xs) kn_z) (wi_b L xs) 16) (sd_run true (wi_k L xs) (wi_b L xs) kn_z)))), (yk, .inl (cB, 32, .inl (wi_k L xs)))]) (w1 := [(y, .inr (0, [.ref yk, .ref yb, .ref yo])), (yb, .inl (cB, 16, .inl (sd_again (sd_run false (wi_k L xs) (wi_b L xs) kn_z) (wi_b L xs) 16))), (yo, .inl (cB, 16, .inl (sd_run false (wi_k L xs) (wi_b L xs) kn_z)))]) hP hD [5, 7, 8] [0, 1, 2, 3, 4, 6] rfl rfl (by decide) (by decide) hk1 hFc hP1 hD1
      have hP := hP.sub (ws' := [(kq, .inl (cI, 1, .inl (upd kn_z 0 0))), (x, .inr (0, [.ref xk, .ref xb, .ref xo])), (xk, .inl (cB, 32, .inl (wi_k L xs))), (xb, .inl (cB, 16, .inl (sd_again (sd_run true (wi_k L xs) (wi_b L xs) kn_z) (wi_b L xs) 16))), (xo, .inl (cB, 16, .inl (sd_run false (wi_k L xs) (sd_again (sd_run true (wi_k L xs) (wi_b L xs) kn_z) (wi_b L xs) 16) (sd_run true (wi_k L xs) (wi_b L xs) kn_z)))), (y, .inr (0, [.ref yk, .ref yb, .ref yo])), (yk, .inl (cB, 32, .inl (wi_k L xs))), (yb, .inl (cB, 16, .inl (sd_again (sd_run false (wi_k L xs) (wi_b L xs) kn_z) (wi_b L xs) 16))), (yo, .inl (cB, 16, .inl (sd_run false (wi_k L xs) (wi_b L xs) kn_z)))]) [0, 1, 2, 3, 4, 6, 5, 7, 8] rfl
      have hD := hD.sub (ws' := [(kq, .inl (cI, 1, .inl (upd kn_z 0 0))), (x, .inr (0, [.ref xk, .ref xb, .ref xo])), (xk, .inl (cB, 32, .inl (wi_k L xs))), (xb, .inl (cB, 16, .inl (sd_again (sd_run true (wi_k L xs) (wi_b L xs) kn_z) (wi_b L xs) 16))), (xo, .inl (cB, 16, .inl (sd_run false (wi_k L xs) (sd_again (sd_run true (wi_k L xs) (wi_b L xs) kn_z) (wi_b L xs) 16) (sd_run true (wi_k L xs) (wi_b L xs) kn_z)))), (y, .inr (0, [.ref yk, .ref yb, .ref yo])), (yk, .inl (cB, 32, .inl (wi_k L xs))), (yb, .inl (cB, 16, .inl (sd_again (sd_run false (wi_k L xs) (wi_b L xs) kn_z) (wi_b L xs) 16))), (yo, .inl (cB, 16, .inl (sd_run false (wi_k L xs) (wi_b L xs) kn_z)))]) [0, 1, 2, 3, 4, 6, 5, 7, 8] (by decide) rfl
      refine lv_aload hx hb dL_law_79 (lv_at hl 0 rfl) ?_
      refine lv_iload hx hb dL_law_81 (lv_at hl 2 rfl) ?_
      have hPc := hP.sub (ws' := [(y, .inr (0, [.ref yk, .ref yb, .ref yo])), (yk, .inl (cB, 32, .inl (wi_k L xs))), (yb, .inl (cB, 16, .inl (sd_again (sd_run false (wi_k L xs) (wi_b L xs) kn_z) (wi_b L xs) 16))), (yo, .inl (cB, 16, .inl (sd_run false (wi_k L xs) (wi_b L xs) kn_z)))]) [5, 6, 7, 8] rfl
      have hDc := hD.sub (ws' := [(y, .inr (0, [.ref yk, .ref yb, .ref yo])), (yk, .inl (cB, 32, .inl (wi_k L xs))), (yb, .inl (cB, 16, .inl (sd_again (sd_run false (wi_k L xs) (wi_b L xs) kn_z) (wi_b L xs) 16))), (yo, .inl (cB, 16, .inl (sd_run false (wi_k L xs) (wi_b L xs) kn_z)))]) [5, 6, 7, 8] (by decide) rfl
      have hFc := va_free (wc := [(y, .inr (0, [.ref yk, .ref yb, .ref yo])), (yk, .inl (cB, 32, .inl (wi_k L xs))), (yb, .inl (cB, 16, .inl (sd_again (sd_run false (wi_k L xs) (wi_b L xs) kn_z) (wi_b L xs) 16))), (yo, .inl (cB, 16, .inl (sd_run false (wi_k L xs) (wi_b L xs) kn_z)))]) hD hS hA [5, 6, 7, 8] rfl
      have hTc := tb_here hT hS hFc
      refine va_callv (va_runV (As := [.int 0]) (rest := []) ⟨hx, hb, hml, hown, hts⟩ (mt_lock l D cB cI y yk yb yo _ (wi_k L xs) (sd_again (sd_run false (wi_k L xs) (wi_b L xs) kn_z) (wi_b L xs) 16) (sd_run false (wi_k L xs) (wi_b L xs) kn_z) 0) (cwV 1 hts (lw_V q26 q27 q28 q14 q29) rfl rfl rfl (by decide +kernel) ⟨Nat.le_of_ble_eq_true rfl, Nat.le_of_ble_eq_true rfl⟩) ⟨pz_blind, va_recv hK hP (ci := 0) (q0 := 5) rfl rfl, pz_at hPc hK hDc hTc hI⟩ rfl rfl hl.1 rfl (lv_room (Nat.le_of_ble_eq_true rfl)) dL_law_83 ⟨Nat.le_of_ble_eq_true rfl, Nat.le_of_ble_eq_true rfl⟩) hS (fun q _ h => hFc q h) hFc (fun u_ t H locs ht hvm hw hB hz1 hk1 hS => ?_)
      obtain ⟨hP1, hD1⟩ := hB
      rw [ht] at hP1
      obtain ⟨hP, hD⟩ := va_join (wr := [(kq, .inl (cI, 1, .inl (upd kn_z 0 0))), (x, .inr (0, [.ref xk, .ref xb, .ref xo])), (xk, .inl (cB, 32, .inl (wi_k L xs))), (xb, .inl (cB, 16, .inl (sd_again (sd_run true (wi_k L xs) (wi_b L xs) kn_z) (wi_b L xs) 16))), (xo, .inl (cB, 16, .inl (sd_run false (wi_k L xs) (sd_again (sd_run true (wi_k L xs) (wi_b L xs) kn_z) (wi_b L xs) 16) (sd_run true (wi_k L xs) (wi_b L xs) kn_z))))]) (w1 := [(y, .inr (0, [.ref yk, .ref yb, .ref yo])), (yk, .inl (cB, 32, .inl (wi_k L xs))), (yb, .inl (cB, 16, .inl (sd_again (sd_run false (wi_k L xs) (wi_b L xs) kn_z) (wi_b L xs) 16))), (yo, .inl (cB, 16, .inl (sd_run true (wi_k L xs) (sd_again (sd_run false (wi_k L xs) (wi_b L xs) kn_z) (wi_b L xs) 16) (sd_run false (wi_k L xs) (wi_b L xs) kn_z))))]) hP hD [5, 6, 7, 8] [0, 1, 2, 3, 4] rfl rfl (by decide) (by decide) hk1 hFc hP1 hD1
      have hP := hP.sub (ws' := [(kq, .inl (cI, 1, .inl (upd kn_z 0 0))), (x, .inr (0, [.ref xk, .ref xb, .ref xo])), (xk, .inl (cB, 32, .inl (wi_k L xs))), (xb, .inl (cB, 16, .inl (sd_again (sd_run true (wi_k L xs) (wi_b L xs) kn_z) (wi_b L xs) 16))), (xo, .inl (cB, 16, .inl (sd_run false (wi_k L xs) (sd_again (sd_run true (wi_k L xs) (wi_b L xs) kn_z) (wi_b L xs) 16) (sd_run true (wi_k L xs) (wi_b L xs) kn_z)))), (y, .inr (0, [.ref yk, .ref yb, .ref yo])), (yk, .inl (cB, 32, .inl (wi_k L xs))), (yb, .inl (cB, 16, .inl (sd_again (sd_run false (wi_k L xs) (wi_b L xs) kn_z) (wi_b L xs) 16))), (yo, .inl (cB, 16, .inl (sd_run true (wi_k L xs) (sd_again (sd_run false (wi_k L xs) (wi_b L xs) kn_z) (wi_b L xs) 16) (sd_run false (wi_k L xs) (wi_b L xs) kn_z))))]) [0, 1, 2, 3, 4, 5, 6, 7, 8] rfl
      have hD := hD.sub (ws' := [(kq, .inl (cI, 1, .inl (upd kn_z 0 0))), (x, .inr (0, [.ref xk, .ref xb, .ref xo])), (xk, .inl (cB, 32, .inl (wi_k L xs))), (xb, .inl (cB, 16, .inl (sd_again (sd_run true (wi_k L xs) (wi_b L xs) kn_z) (wi_b L xs) 16))), (xo, .inl (cB, 16, .inl (sd_run false (wi_k L xs) (sd_again (sd_run true (wi_k L xs) (wi_b L xs) kn_z) (wi_b L xs) 16) (sd_run true (wi_k L xs) (wi_b L xs) kn_z)))), (y, .inr (0, [.ref yk, .ref yb, .ref yo])), (yk, .inl (cB, 32, .inl (wi_k L xs))), (yb, .inl (cB, 16, .inl (sd_again (sd_run false (wi_k L xs) (wi_b L xs) kn_z) (wi_b L xs) 16))), (yo, .inl (cB, 16, .inl (sd_run true (wi_k L xs) (sd_again (sd_run false (wi_k L xs) (wi_b L xs) kn_z) (wi_b L xs) 16) (sd_run false (wi_k L xs) (wi_b L xs) kn_z))))]) [0, 1, 2, 3, 4, 5, 6, 7, 8] (by decide) rfl
      refine W.widen (k := 69) (n := 1011) (Nat.le_of_ble_eq_true rfl) (Nat.le_of_ble_eq_true rfl) ?_
      refine lv_aload hx hb dL_law_86 (lv_at hl 1 rfl) ?_
      refine lv_aload_n hx hb dL_law_88 rfl (lv_at hl 7 rfl) ?_
      refine cs_i (W.runS (As := [.ref x, .ref b]) (rest := []) ⟨hx, hb, hml, hown, hts⟩ (mt_same l D _ cB cI 1 4 x xk xb xo b L xs _ rfl rfl hL (fun i hi => (sd_law true (wi_k L xs) (wi_b L xs) kn_z _ hi).trans (wi_at L xs hi))) (va_cwS 2 hts (lw_S q317 q318 q13 q319) rfl rfl rfl (by decide +kernel) ⟨Nat.le_of_ble_eq_true rfl, Nat.le_of_ble_eq_true rfl⟩) ⟨ps_blind, ps_at hP hK (va_X.kept hX (hS.2.1 b hbl hbA))⟩ rfl rfl hl.1 rfl (lv_room (Nat.le_of_ble_eq_true rfl)) dL_law_89 ⟨Nat.le_of_ble_eq_true rfl, Nat.le_of_ble_eq_true rfl⟩) ?_
      refine lv_if_eq (tgt := 104) hx hb dL_law_92 (by decide) (fun c2 => ?_) (fun c2 => ?_)
      · exact absurd c2 (by decide)
      · refine lv_aload hx hb dL_law_95 (lv_at hl 0 rfl) ?_
        refine lv_aload_n hx hb dL_law_97 rfl (lv_at hl 7 rfl) ?_
        refine cs_i (W.runS (As := [.ref y, .ref b]) (rest := []) ⟨hx, hb, hml, hown, hts⟩ (mt_same l D _ cB cI 5 8 y yk yb yo b L xs _ rfl rfl hL (fun i hi => (sd_law false (wi_k L xs) (wi_b L xs) kn_z _ hi).trans (wi_at L xs hi))) (va_cwS 2 hts (lw_S q317 q318 q13 q319) rfl rfl rfl (by decide +kernel) ⟨Nat.le_of_ble_eq_true rfl, Nat.le_of_ble_eq_true rfl⟩) ⟨ps_blind, ps_at hP hK (va_X.kept hX (hS.2.1 b hbl hbA))⟩ rfl rfl hl.1 rfl (lv_room (Nat.le_of_ble_eq_true rfl)) dL_law_98 ⟨Nat.le_of_ble_eq_true rfl, Nat.le_of_ble_eq_true rfl⟩) ?_
        refine lv_if_ne (tgt := 106) hx hb dL_law_101 (by decide) (fun c3 => ?_) (fun c3 => ?_)
        · refine lv_iinc (v := 1) (lv' := [(4, .int 1), (7, .ref y), (6, .ref x), (5, .int 0), (3, .int 1), (2, .ref kq), (1, .ref kq), (0, .ref b)]) hx hb dL_law_106 hl (k := 3) rfl (by decide) (by decide) rfl (fun ls hl => ?_)
          refine lv_goto (tgt := 24) hx hb dL_law_109 (by decide) ?_
          refine lv_iload hx hb dL_law_24 (lv_at hl 0 rfl) ?_
          refine lv_iload_n hx hb dL_law_26 rfl (lv_at hl 4 rfl) ?_
          refine lv_icmp_ge (tgt := 112) hx hb dL_law_27 (by decide) (fun c4 => ?_) (fun c4 => ?_)
          · refine lv_iconst (v := 1) hx hb dL_law_112 (by decide) ?_
            refine va_forget (fun q hq => hA2 _ (hS.2.2 q hq)) ?_
            refine W.widen (k := 600024) (n := 7302034) (Nat.le_of_ble_eq_true rfl) (Nat.le_of_ble_eq_true rfl) ?_
            exact lw_ret hx hb hr hlocks dL_law_113
          · exact absurd (by decide) c4
        · exact absurd c3 (by decide)
  · exact absurd c0 (by decide)
-- ===== YOUR PART ENDS =====
set_option maxHeartbeats 4000000 in
theorem lw_walk (l : Launch) (hflags : l.flags = flags0) (b : Addr) (xs : List Int32) : MetFree l x (headSpec (Jvm.Cond.code x code maxLocals ret :: tables_1) room_1) (lw_P b xs) (fun _ _ _ _ _ => True) lw_Q := by
  refine MetFree.of_bodyS (code := code) (maxLocals := maxLocals) (ret := ret) (by decide) ?_ ?_
  · intro args s m h hn
    obtain ⟨meth, c, h1, h2, h3, h4, h5, h6, -, -⟩ := Cond.code_spec hn (atoms_spec (ws := Jvm.Cond.code x code maxLocals ret :: tables_1) h _ List.mem_cons_self)
    exact ⟨meth, c, h1, h2, h3, h4, h5, h6⟩
  · intro p e s m args below meth c s₁ B hml0 hP _
    obtain ⟨rfl, hx, hbd, hgv⟩ := hP
    obtain ⟨scr, harrAt, hlist, hof, hsmall⟩ := hx
    obtain ⟨hcb, hkn, -, -⟩ := State.arrayAt?_spec harrAt
    have hown : s.vm.findClass R_law = some m.cls := findClass_of_methodNamed B.named
    have hts0 : ∀ c ∈ (Jvm.Cond.code x code maxLocals ret :: tables_1), c.before #[Value.ref b] s = true := atoms_spec (ws := Jvm.Cond.code x code maxLocals ret :: tables_1) B.pre
    have hts : ∀ w ∈ lw_tbl, w.before #[Value.ref b] s = true := k2_hts_sels lw_privs (fun w hw => hts0 w (List.mem_cons_of_mem _ hw)) lw_privs_ok
    have hml : c.maxLocals = 8 := B.maxLocals_eq (hts0 _ List.mem_cons_self)
    have X₀ : Stand p l e room_1 s m #[Value.ref b] below meth c s₁ [] 0 0 := Stand.of_body B
    have hh0 : s₁.heap = s.heap := by rw [B.state]; rfl
    have hsz : scr.slots.size = xs.length := by rw [← Array.length_toList, hlist, List.length_map]
    have hval : ∀ j : Nat, j < xs.length → scr.slots[j]? = some (.int (xs.getD j 0)) := fun j hj => by
      rw [← Array.getElem?_toList, hlist]
      simp [hj]
    have hbl : b < s.heap.size := (Array.getElem?_eq_some_iff.mp hcb).1
    have hX : va_X b xs.length (fun j => xs.getD j 0) s s.heap := ⟨scr, hcb, hof, hkn, hsz, hval⟩
    have K : W p l e room_1 s m #[Value.ref b] below meth c s₁.heap [] 0 0 (lw_Z below #[Value.ref b] s) (entryFrame m ([Value.ref b] : List Value).toArray 8) := by
      rw [hh0]
      exact whole_start l hflags hbd ⟨B.exec, B.bytes, B.returns, hml, hown, hts, hX, hbl, B.notSynchronized, hgv⟩
    obtain ⟨t, a1, o, b1, b2, b3⟩ := K s₁ rfl X₀
    exact ⟨t, o, a1, b1, b2, b3⟩
theorem lw_pre_spec {args : Array Value} {s : State} (h : (Jvm.Cond.and given_1 narrow_1).before args s = true) (hr : rest_1_c.before args s = true) : ∃ (b : Addr) (xs : List Int32), lw_P b xs args s := by
  have hs := flat_of_before _ h
  have hq := flat_of_before _ hr
  have hc : (Cond.count 1).before args s = true := hs _ (by decide +kernel)
  have harr : (Cond.arrayOf (.arg 0) .int).before args s = true := hs _ (by decide +kernel)
  have hle : (Cond.le (.length (.arg 0)) (.int 12)).before args s = true := hs _ (by decide +kernel)
  have hlen : (Cond.isInt (.length (.arg 0))).before args s = true := hq _ (by decide +kernel)
  have hall : (Cond.all (.arg 0) (.isInt (.elem (.arg 0) (.index 0)))).before args s = true := hq _ (by decide +kernel)
  obtain ⟨b, xs, hb, hx⟩ := State.ints_of_pre rfl harr hlen hall
  have hsm : xs.length < 2 ^ 31 := hx.choose_spec.2.2.2
  have hev : (Term.length (.arg 0)).eval args s none [] s = some (.int xs.length.toInt32) := hx.length_eval hb
  have hv := Cond.le_ints hev (show (Term.int 12).eval args s none [] s = some (.int 12) from rfl)
  have hd : xs.length.toInt32 ≤ 12 := by
    simpa [Cond.before, Cond.holds, hv] using hle
  have hN : xs.length ≤ 12 := (Int32.ofNat_le_ofNat hsm (by decide)).mp (show Int32.ofNat xs.length ≤ Int32.ofNat 12 from hd)
  exact ⟨b, xs, Cond.one_arg hc (show args[0]? = some (.ref b) from hb), hx, hN, h⟩
theorem lw_comes (l : Launch) (hflags : l.flags = flags0) : Comes l x (Jvm.Cond.code x code maxLocals ret :: tables_1) room_1 (fun tb e args s => Calls_1 tb e args s ∧ rest_1 tb e args s ∧ Pre_1 tb e args s)
    (fun _ _ args s o t => lw_Q args s o t) := by
  intro p e ha hc hk s m args below hf hfit hheap happ hpre
  obtain ⟨b, xs, hP⟩ := lw_pre_spec hpre.2.2 hpre.2.1
  obtain ⟨k, o, h1, h2, h3, hQ⟩ := lw_walk l hflags b xs p e ha hc hk s m args below hf ((Spec.applies_iff_loose hf).mp happ).1 hP trivial
  exact ⟨k, o, h1, h2, h3, hQ⟩
theorem lw_frame {s t : State} {o : Outcome} {args : Array Value} (h : Framed s o t [] 600024 7302034) :
    Framed s o t (fieldLocs frame_1_writes args s ++ arrayLocs frame_1_arrays args s ++ staticLocs frame_1_statics s) 600024 7302034 := h
theorem lw_limb (L : Cond) (hL : ∀ (args : Array Value) (s t : State), L.after args s (.returned (some (.int 1))) t = true) :
    ArmFor flags0 classFile x code maxLocals ret World_1 tables_1 room_1 Calls_1 rest_1 Pre_1
      (fun tb e a s o t => postC L tb e a s o t ∧ Framed s o t (fieldLocs frame_1_writes a s ++ arrayLocs frame_1_arrays a s ++ staticLocs frame_1_statics s) 600024 7302034) := by
  intro l hflags _ _ p e ha hc hk s m args below hf hfit hheap happ hpre
  obtain ⟨k, o, h1, h2, h3, rfl, hF⟩ := lw_comes l hflags p e ha hc hk s m args below hf hfit hheap happ hpre
  exact ⟨k, _, h1, h2, h3, hL args s _, lw_frame hF⟩
theorem i_vc : Claimed_1_1 ∧ Claimed_1_2 := ⟨lw_limb limb_1_1 (fun args s t => by simp [limb_1_1, Cond.after, Cond.holds, Cond.value]), lw_limb limb_1_2 (fun args s t => Cond.after_iff.mpr (by
  first | (rw [show limb_1_2 = Cond.eq .result (.int 1) from rfl, Cond.eq_ints (x := 1) (y := 1) rfl rfl]; simp; done) | (simp [limb_1_2, Cond.value, Term.eval]; done)))⟩
end
