section
-- ===== PART A: goes FIRST, ahead of the names: the tables' words, and 'selects' of the private methods out of them =====
/-- a private method of a class that the tables say can be made, by its rows of tables_1 -/
def lw_okq (q : MethodName × Nat) : Prop := (q.1.cls ≠ "java/lang/invoke/MethodHandle" ∧ q.1.cls ≠ "java/lang/invoke/VarHandle") ∧ Cond.instantiable q.1.cls q.2 ∈ tables_1 ∧ Cond.privateMethod q.1 ∈ tables_1 ∧ Cond.instanceMethod q.1 ∈ tables_1
set_option maxRecDepth 100000
theorem lw_t1 {w : Cond} (h : w ∈ tables_1_1) : w ∈ tables_1 := List.mem_append_left _ h
theorem lw_t2 {w : Cond} (h : w ∈ tables_1_2) : w ∈ tables_1 := List.mem_append_right _ h
theorem lw_p0 : lw_okq (⟨"SeedDesk", "run", "(ZI)V"⟩, 3) := ⟨⟨by decide +kernel, by decide +kernel⟩, lw_t1 (List.mem_of_getElem? (i := 15) rfl), lw_t1 (List.mem_of_getElem? (i := 49) rfl), lw_t1 (List.mem_of_getElem? (i := 50) rfl)⟩
theorem lw_p1 : lw_okq (⟨"SEEDEngine", "createWorkingKey", "([B)[I"⟩, 3) := ⟨⟨by decide +kernel, by decide +kernel⟩, lw_t1 (List.mem_of_getElem? (i := 56) rfl), lw_t1 (List.mem_of_getElem? (i := 106) rfl), lw_t1 (List.mem_of_getElem? (i := 107) rfl)⟩
theorem lw_p2 : lw_okq (⟨"java/lang/Throwable", "fillInStackTrace", "(I)Ljava/lang/Throwable;"⟩, 6) := ⟨⟨by decide +kernel, by decide +kernel⟩, lw_t1 (List.mem_of_getElem? (i := 149) rfl), lw_t1 (List.mem_of_getElem? (i := 147) rfl), lw_t1 (List.mem_of_getElem? (i := 148) rfl)⟩
theorem lw_p3 : lw_okq (⟨"SEEDEngine", "bytesToLong", "([BI)J"⟩, 3) := ⟨⟨by decide +kernel, by decide +kernel⟩, lw_t1 (List.mem_of_getElem? (i := 56) rfl), lw_t1 (List.mem_of_getElem? (i := 178) rfl), lw_t1 (List.mem_of_getElem? (i := 179) rfl)⟩
theorem lw_p4 : lw_okq (⟨"SEEDEngine", "extractW0", "(J)I"⟩, 3) := ⟨⟨by decide +kernel, by decide +kernel⟩, lw_t1 (List.mem_of_getElem? (i := 56) rfl), lw_t1 (List.mem_of_getElem? (i := 182) rfl), lw_t1 (List.mem_of_getElem? (i := 183) rfl)⟩
theorem lw_p5 : lw_okq (⟨"SEEDEngine", "extractW1", "(J)I"⟩, 3) := ⟨⟨by decide +kernel, by decide +kernel⟩, lw_t1 (List.mem_of_getElem? (i := 56) rfl), lw_t1 (List.mem_of_getElem? (i := 186) rfl), lw_t1 (List.mem_of_getElem? (i := 187) rfl)⟩
theorem lw_p6 : lw_okq (⟨"SEEDEngine", "G", "(I)I"⟩, 3) := ⟨⟨by decide +kernel, by decide +kernel⟩, lw_t1 (List.mem_of_getElem? (i := 56) rfl), lw_t1 (List.mem_of_getElem? (i := 192) rfl), lw_t1 (List.mem_of_getElem? (i := 193) rfl)⟩
theorem lw_p7 : lw_okq (⟨"SEEDEngine", "rotateRight8", "(J)J"⟩, 3) := ⟨⟨by decide +kernel, by decide +kernel⟩, lw_t1 (List.mem_of_getElem? (i := 56) rfl), lw_t1 (List.mem_of_getElem? (i := 204) rfl), lw_t1 (List.mem_of_getElem? (i := 205) rfl)⟩
theorem lw_p8 : lw_okq (⟨"SEEDEngine", "rotateLeft8", "(J)J"⟩, 3) := ⟨⟨by decide +kernel, by decide +kernel⟩, lw_t1 (List.mem_of_getElem? (i := 56) rfl), lw_t1 (List.mem_of_getElem? (i := 208) rfl), lw_t1 (List.mem_of_getElem? (i := 209) rfl)⟩
theorem lw_p9 : lw_okq (⟨"SEEDEngine", "F", "(IIJ)J"⟩, 3) := ⟨⟨by decide +kernel, by decide +kernel⟩, lw_t1 (List.mem_of_getElem? (i := 56) rfl), lw_t2 (List.mem_of_getElem? (i := 35) rfl), lw_t2 (List.mem_of_getElem? (i := 36) rfl)⟩
theorem lw_p10 : lw_okq (⟨"SEEDEngine", "phaseCalc2", "(IIII)I"⟩, 3) := ⟨⟨by decide +kernel, by decide +kernel⟩, lw_t1 (List.mem_of_getElem? (i := 56) rfl), lw_t2 (List.mem_of_getElem? (i := 39) rfl), lw_t2 (List.mem_of_getElem? (i := 40) rfl)⟩
theorem lw_p11 : lw_okq (⟨"SEEDEngine", "phaseCalc1", "(IIII)I"⟩, 3) := ⟨⟨by decide +kernel, by decide +kernel⟩, lw_t1 (List.mem_of_getElem? (i := 56) rfl), lw_t2 (List.mem_of_getElem? (i := 43) rfl), lw_t2 (List.mem_of_getElem? (i := 44) rfl)⟩
theorem lw_p12 : lw_okq (⟨"SEEDEngine", "longToBytes", "([BIJ)V"⟩, 3) := ⟨⟨by decide +kernel, by decide +kernel⟩, lw_t1 (List.mem_of_getElem? (i := 56) rfl), lw_t2 (List.mem_of_getElem? (i := 48) rfl), lw_t2 (List.mem_of_getElem? (i := 49) rfl)⟩
theorem lw_p13 : lw_okq (⟨"SeedDeskModel", "run", "(Z)V"⟩, 3) := ⟨⟨by decide +kernel, by decide +kernel⟩, lw_t2 (List.mem_of_getElem? (i := 64) rfl), lw_t2 (List.mem_of_getElem? (i := 95) rfl), lw_t2 (List.mem_of_getElem? (i := 96) rfl)⟩
theorem lw_p14 : lw_okq (⟨"SeedDeskModel", "rounds", "()[I"⟩, 3) := ⟨⟨by decide +kernel, by decide +kernel⟩, lw_t2 (List.mem_of_getElem? (i := 64) rfl), lw_t2 (List.mem_of_getElem? (i := 99) rfl), lw_t2 (List.mem_of_getElem? (i := 100) rfl)⟩
def lw_privs_1 : List (MethodName × Nat) := [(⟨"SeedDesk", "run", "(ZI)V"⟩, 3), (⟨"SEEDEngine", "createWorkingKey", "([B)[I"⟩, 3), (⟨"java/lang/Throwable", "fillInStackTrace", "(I)Ljava/lang/Throwable;"⟩, 6), (⟨"SEEDEngine", "bytesToLong", "([BI)J"⟩, 3), (⟨"SEEDEngine", "extractW0", "(J)I"⟩, 3), (⟨"SEEDEngine", "extractW1", "(J)I"⟩, 3), (⟨"SEEDEngine", "G", "(I)I"⟩, 3), (⟨"SEEDEngine", "rotateRight8", "(J)J"⟩, 3), (⟨"SEEDEngine", "rotateLeft8", "(J)J"⟩, 3), (⟨"SEEDEngine", "F", "(IIJ)J"⟩, 3), (⟨"SEEDEngine", "phaseCalc2", "(IIII)I"⟩, 3), (⟨"SEEDEngine", "phaseCalc1", "(IIII)I"⟩, 3), (⟨"SEEDEngine", "longToBytes", "([BIJ)V"⟩, 3), (⟨"SeedDeskModel", "run", "(Z)V"⟩, 3), (⟨"SeedDeskModel", "rounds", "()[I"⟩, 3)]
theorem lw_r1 : ∀ q ∈ lw_privs_1, lw_okq q := List.forall_mem_cons.mpr ⟨lw_p0, List.forall_mem_cons.mpr ⟨lw_p1, List.forall_mem_cons.mpr ⟨lw_p2, List.forall_mem_cons.mpr ⟨lw_p3, List.forall_mem_cons.mpr ⟨lw_p4, List.forall_mem_cons.mpr ⟨lw_p5, List.forall_mem_cons.mpr ⟨lw_p6, List.forall_mem_cons.mpr ⟨lw_p7, List.forall_mem_cons.mpr ⟨lw_p8, List.forall_mem_cons.mpr ⟨lw_p9, List.forall_mem_cons.mpr ⟨lw_p10, List.forall_mem_cons.mpr ⟨lw_p11, List.forall_mem_cons.mpr ⟨lw_p12, List.forall_mem_cons.mpr ⟨lw_p13, List.forall_mem_cons.mpr ⟨lw_p14, fun _ h => absurd h List.not_mem_nil⟩⟩⟩⟩⟩⟩⟩⟩⟩⟩⟩⟩⟩⟩⟩
def lw_privs : List (MethodName × Nat) := lw_privs_1
def lw_tbl : List Cond := k2_sels lw_privs ++ tables_1
theorem lw_privs_ok : ∀ q ∈ lw_privs, lw_okq q := lw_r1
-- ===== ONE list of words for every method: the tables' words that hold all through a run =====
def lw_all : List Cond := lw_tbl.filter goodWord
/-- a word of the tables by its place: claim/WORDS.tsv -/
theorem lw_w {w : Cond} (i : Nat) (h : lw_tbl[i]? = some w) (g : goodWord w = true) : w ∈ lw_all := List.mem_filter.mpr ⟨List.mem_of_getElem? h, g⟩
theorem lw_all_tbl {w : Cond} (h : w ∈ lw_all) : w ∈ lw_tbl := (List.mem_filter.mp h).1
theorem lw_self : GoodIn lw_all lw_all := fun w h => ⟨h, good_of_word (List.mem_filter.mp h).2⟩
/-- a class's field words, by their places -/
theorem lw_in (ws : List Cond) (ps : List Nat) (hp : ws = ps.filterMap (fun i => lw_tbl[i]?)) (hg : ws.all goodWord = true) : ∀ w ∈ ws, w ∈ lw_all := by
  intro w h
  have h1 := List.all_eq_true.mp hg w h
  rw [hp] at h
  obtain ⟨i, -, hi⟩ := List.mem_filterMap.mp h
  exact lw_w i hi h1
/-- the words of a contract for the method y with code b, L locals, answer r -/
abbrev ws_ (y : MethodName) (b : ByteArray) (L : Nat) (r : Option FieldType) : List Cond := Cond.code y b L r :: lw_all
theorem lw_meth {y : MethodName} {b : ByteArray} {L : Nat} {r : Option FieldType} (h : Cond.code y b L r ∈ lw_all) : GoodIn lw_all (ws_ y b L r) := by
  intro w hw
  rcases List.mem_cons.mp hw with e | e
  · rw [e]
    exact lw_self _ h
  · exact lw_self _ e
theorem lw_app {a c : List Cond} (ha : ∀ w ∈ a, w ∈ lw_all) (hc : GoodIn lw_all c) : GoodIn lw_all (a ++ c) := by
  intro w hw
  rcases List.mem_append.mp hw with e | e
  · exact lw_self w (ha w e)
  · exact hc w e
/-- what a call through an object asks: cwV n hts (lw_V ..) -/
theorem lw_V {own : String} {idx : Nat} {C : String} {y : MethodName} {b : ByteArray} {L : Nat} {r : Option FieldType} (h1 : Cond.methodLink own idx y ∈ lw_all) (h2 : Cond.instanceMethod y ∈ lw_all) (h3 : Cond.selects C y y ∈ lw_all) (h4 : Cond.initialized C ∈ lw_all) (h5 : Cond.code y b L r ∈ lw_all) : GoodIn lw_all (wsV own idx C y (ws_ y b L r)) := by
  refine lw_app ?_ (lw_meth h5)
  intro w hw
  simp only [List.mem_cons, List.not_mem_nil, or_false] at hw
  rcases hw with e | e | e | e
  · rw [e]; exact h1
  · rw [e]; exact h2
  · rw [e]; exact h3
  · rw [e]; exact h4
/-- what a static call asks: va_cwS n hts (lw_S ..) -/
theorem lw_S {own : String} {idx : Nat} {y : MethodName} {b : ByteArray} {L : Nat} {r : Option FieldType} (h1 : Cond.methodLink own idx y ∈ lw_all) (h2 : Cond.static y ∈ lw_all) (h3 : Cond.initialized y.cls ∈ lw_all) (h4 : Cond.code y b L r ∈ lw_all) : GoodIn lw_all (va_wsS own idx y (ws_ y b L r)) := by
  refine lw_app ?_ (lw_meth h4)
  intro w hw
  simp only [List.mem_cons, List.not_mem_nil, or_false] at hw
  rcases hw with e | e | e
  · rw [e]; exact h1
  · rw [e]; exact h2
  · rw [e]; exact h3
/-- the words of a contract for a method WITH HANDLERS (hh: its table) -/
abbrev wsW_ (y : MethodName) (b : ByteArray) (L : Nat) (r : Option FieldType) (hh : List (Nat × Nat × Nat × Nat)) : List Cond := Cond.codeWith y b L r hh :: lw_all
theorem lw_methW {y : MethodName} {b : ByteArray} {L : Nat} {r : Option FieldType} {hh : List (Nat × Nat × Nat × Nat)} (h : Cond.codeWith y b L r hh ∈ lw_all) : GoodIn lw_all (wsW_ y b L r hh) := by
  intro w hw
  rcases List.mem_cons.mp hw with e | e
  · rw [e]
    exact lw_self _ h
  · exact lw_self _ e
/-- any list of words by their places (lw_in), good -/
theorem lw_good {ws : List Cond} (h : ∀ w ∈ ws, w ∈ lw_all) : GoodIn lw_all ws := fun w hw => lw_self w (h w hw)
/-- what a call of a method with handlers asks: vx_cwVW n hts (lw_VW ..), vx_cwSW n hts (lw_SW ..) -/
theorem lw_VW {own : String} {idx : Nat} {C : String} {y : MethodName} {b : ByteArray} {L : Nat} {r : Option FieldType} {hh : List (Nat × Nat × Nat × Nat)} (h1 : Cond.methodLink own idx y ∈ lw_all) (h2 : Cond.instanceMethod y ∈ lw_all) (h3 : Cond.selects C y y ∈ lw_all) (h4 : Cond.initialized C ∈ lw_all) (h5 : Cond.codeWith y b L r hh ∈ lw_all) : GoodIn lw_all (wsV own idx C y (wsW_ y b L r hh)) := by
  refine lw_app ?_ (lw_methW h5)
  intro w hw
  simp only [List.mem_cons, List.not_mem_nil, or_false] at hw
  rcases hw with e | e | e | e
  · rw [e]; exact h1
  · rw [e]; exact h2
  · rw [e]; exact h3
  · rw [e]; exact h4
theorem lw_SW {own : String} {idx : Nat} {y : MethodName} {b : ByteArray} {L : Nat} {r : Option FieldType} {hh : List (Nat × Nat × Nat × Nat)} (h1 : Cond.methodLink own idx y ∈ lw_all) (h2 : Cond.static y ∈ lw_all) (h3 : Cond.initialized y.cls ∈ lw_all) (h4 : Cond.codeWith y b L r hh ∈ lw_all) : GoodIn lw_all (va_wsS own idx y (wsW_ y b L r hh)) := by
  refine lw_app ?_ (lw_methW h4)
  intro w hw
  simp only [List.mem_cons, List.not_mem_nil, or_false] at hw
  rcases hw with e | e | e
  · rw [e]; exact h1
  · rw [e]; exact h2
  · rw [e]; exact h3
/-- a word by its place in its run of the tables -/
theorem lw_at {r : List Cond} (hr : ∀ w ∈ r, w ∈ lw_tbl) {w : Cond} (i : Nat) (h : r[i]? = some w) : w ∈ lw_tbl := hr w (List.mem_of_getElem? h)
theorem lw_g {w : Cond} (h : w ∈ lw_tbl) (g : goodWord w = true) : w ∈ lw_all := List.mem_filter.mpr ⟨h, g⟩
theorem lw_ms : ∀ w ∈ k2_sels lw_privs, w ∈ lw_tbl := fun w h => show w ∈ k2_sels lw_privs ++ tables_1 from List.mem_append_left _ h
theorem lw_m1 : ∀ w ∈ tables_1_1, w ∈ lw_tbl := fun w h => show w ∈ k2_sels lw_privs ++ tables_1 from List.mem_append_right (k2_sels lw_privs) (show w ∈ tables_1 from List.mem_append_left _ h)
theorem lw_m2 : ∀ w ∈ tables_1_2, w ∈ lw_tbl := fun w h => show w ∈ k2_sels lw_privs ++ tables_1 from List.mem_append_right (k2_sels lw_privs) (show w ∈ tables_1 from List.mem_append_right _ h)
theorem qs0 : (Cond.selects "SeedDesk" ⟨"SeedDesk", "run", "(ZI)V"⟩ ⟨"SeedDesk", "run", "(ZI)V"⟩) ∈ lw_all := lw_g (lw_at lw_ms 0 rfl) rfl
theorem qs1 : (Cond.selects "SEEDEngine" ⟨"SEEDEngine", "createWorkingKey", "([B)[I"⟩ ⟨"SEEDEngine", "createWorkingKey", "([B)[I"⟩) ∈ lw_all := lw_g (lw_at lw_ms 1 rfl) rfl
theorem qs2 : (Cond.selects "java/lang/Throwable" ⟨"java/lang/Throwable", "fillInStackTrace", "(I)Ljava/lang/Throwable;"⟩ ⟨"java/lang/Throwable", "fillInStackTrace", "(I)Ljava/lang/Throwable;"⟩) ∈ lw_all := lw_g (lw_at lw_ms 2 rfl) rfl
theorem qs3 : (Cond.selects "SEEDEngine" ⟨"SEEDEngine", "bytesToLong", "([BI)J"⟩ ⟨"SEEDEngine", "bytesToLong", "([BI)J"⟩) ∈ lw_all := lw_g (lw_at lw_ms 3 rfl) rfl
theorem qs4 : (Cond.selects "SEEDEngine" ⟨"SEEDEngine", "extractW0", "(J)I"⟩ ⟨"SEEDEngine", "extractW0", "(J)I"⟩) ∈ lw_all := lw_g (lw_at lw_ms 4 rfl) rfl
theorem qs5 : (Cond.selects "SEEDEngine" ⟨"SEEDEngine", "extractW1", "(J)I"⟩ ⟨"SEEDEngine", "extractW1", "(J)I"⟩) ∈ lw_all := lw_g (lw_at lw_ms 5 rfl) rfl
theorem qs6 : (Cond.selects "SEEDEngine" ⟨"SEEDEngine", "G", "(I)I"⟩ ⟨"SEEDEngine", "G", "(I)I"⟩) ∈ lw_all := lw_g (lw_at lw_ms 6 rfl) rfl
theorem qs7 : (Cond.selects "SEEDEngine" ⟨"SEEDEngine", "rotateRight8", "(J)J"⟩ ⟨"SEEDEngine", "rotateRight8", "(J)J"⟩) ∈ lw_all := lw_g (lw_at lw_ms 7 rfl) rfl
theorem qs8 : (Cond.selects "SEEDEngine" ⟨"SEEDEngine", "rotateLeft8", "(J)J"⟩ ⟨"SEEDEngine", "rotateLeft8", "(J)J"⟩) ∈ lw_all := lw_g (lw_at lw_ms 8 rfl) rfl
theorem qs9 : (Cond.selects "SEEDEngine" ⟨"SEEDEngine", "F", "(IIJ)J"⟩ ⟨"SEEDEngine", "F", "(IIJ)J"⟩) ∈ lw_all := lw_g (lw_at lw_ms 9 rfl) rfl
theorem qs10 : (Cond.selects "SEEDEngine" ⟨"SEEDEngine", "phaseCalc2", "(IIII)I"⟩ ⟨"SEEDEngine", "phaseCalc2", "(IIII)I"⟩) ∈ lw_all := lw_g (lw_at lw_ms 10 rfl) rfl
theorem qs11 : (Cond.selects "SEEDEngine" ⟨"SEEDEngine", "phaseCalc1", "(IIII)I"⟩ ⟨"SEEDEngine", "phaseCalc1", "(IIII)I"⟩) ∈ lw_all := lw_g (lw_at lw_ms 11 rfl) rfl
theorem qs12 : (Cond.selects "SEEDEngine" ⟨"SEEDEngine", "longToBytes", "([BIJ)V"⟩ ⟨"SEEDEngine", "longToBytes", "([BIJ)V"⟩) ∈ lw_all := lw_g (lw_at lw_ms 12 rfl) rfl
theorem qs13 : (Cond.selects "SeedDeskModel" ⟨"SeedDeskModel", "run", "(Z)V"⟩ ⟨"SeedDeskModel", "run", "(Z)V"⟩) ∈ lw_all := lw_g (lw_at lw_ms 13 rfl) rfl
theorem qs14 : (Cond.selects "SeedDeskModel" ⟨"SeedDeskModel", "rounds", "()[I"⟩ ⟨"SeedDeskModel", "rounds", "()[I"⟩) ∈ lw_all := lw_g (lw_at lw_ms 14 rfl) rfl
end
section
/-! ===== Int32 by its bits: bt x i ===== -/
def bt (x : Int32) (i : Nat) : Bool := x.toBitVec.getLsbD i
theorem b_ext {x y : Int32} (h : ∀ i, i < 32 → bt x i = bt y i) : x = y := Int32.toBitVec_inj.mp (BitVec.eq_of_getLsbD_eq (fun i hi => h i hi))
theorem b_or (x y : Int32) (i : Nat) : bt (x ||| y) i = (bt x i || bt y i) := by unfold bt; rw [Int32.toBitVec_or, BitVec.getLsbD_or]
theorem b_and (x y : Int32) (i : Nat) : bt (x &&& y) i = (bt x i && bt y i) := by unfold bt; rw [Int32.toBitVec_and, BitVec.getLsbD_and]
theorem b_xor (x y : Int32) (i : Nat) : bt (x ^^^ y) i = (bt x i ^^ bt y i) := by unfold bt; rw [Int32.toBitVec_xor, BitVec.getLsbD_xor]
theorem b_big {x : Int32} {i : Nat} (h : 32 ≤ i) : bt x i = false := BitVec.getLsbD_of_ge _ _ h
theorem b_255 (i : Nat) : bt 255 i = decide (i < 8) := by
  rcases Nat.lt_or_ge i 32 with h | h
  · exact (by decide +kernel : ∀ i, i < 32 → bt 255 i = decide (i < 8)) i h
  · rw [b_big h, decide_eq_false (by omega)]
theorem b_65535 (i : Nat) : bt 65535 i = decide (i < 16) := by
  rcases Nat.lt_or_ge i 32 with h | h
  · exact (by decide +kernel : ∀ i, i < 32 → bt 65535 i = decide (i < 16)) i h
  · rw [b_big h, decide_eq_false (by omega)]
theorem b_m1 : ∀ i, i < 32 → bt (-1) i = true := by decide +kernel
theorem b_0 (i : Nat) : bt 0 i = false := BitVec.getLsbD_zero
theorem s_l : ∀ n, n < 32 → ((nI n &&& 31).toBitVec.smod 32).toNat = n := by decide +kernel
theorem s_u : ∀ n, n < 32 → (((nI n).toUInt32 &&& Int32.toUInt32 31).toBitVec % 32).toNat = n := by decide +kernel
theorem b_shl (n : Nat) (hn : n < 32) (x : Int32) {i : Nat} (hi : i < 32) : bt (x <<< (nI n &&& 31)) i = (decide (n ≤ i) && bt x (i - n)) := by
  unfold bt
  rw [Int32.toBitVec_shiftLeft]
  show (x.toBitVec <<< ((nI n &&& 31).toBitVec.smod 32).toNat).getLsbD i = _
  rw [s_l n hn, BitVec.getLsbD_shiftLeft]
  rcases Nat.lt_or_ge i n with h | h
  · simp [h, Nat.not_le.mpr h]
  · simp [hi, h, Nat.not_lt.mpr h]
theorem b_ushr (n : Nat) (hn : n < 32) (x : Int32) (i : Nat) : bt ((x.toUInt32 >>> ((nI n).toUInt32 &&& Int32.toUInt32 31)).toInt32) i = bt x (n + i) := by
  show (x.toUInt32 >>> ((nI n).toUInt32 &&& Int32.toUInt32 31)).toBitVec.getLsbD i = x.toUInt32.toBitVec.getLsbD (n + i)
  rw [UInt32.toBitVec_shiftRight]
  show (x.toUInt32.toBitVec >>> (((nI n).toUInt32 &&& Int32.toUInt32 31).toBitVec % 32).toNat).getLsbD i = _
  rw [s_u n hn, BitVec.getLsbD_ushiftRight]
theorem b_sshr (n : Nat) (hn : n < 32) (x : Int32) {i : Nat} (hi : i < 32) : bt (x >>> (nI n &&& 31)) i = if n + i < 32 then bt x (n + i) else bt x 31 := by
  unfold bt
  rw [Int32.toBitVec_shiftRight]
  show (x.toBitVec.sshiftRight ((nI n &&& 31).toBitVec.smod 32).toNat).getLsbD i = _
  rw [s_l n hn, BitVec.getLsbD_sshiftRight, BitVec.msb_eq_getLsbD_last]
  simp [hi]
theorem b_shl8 (x : Int32) {i : Nat} (hi : i < 32) : bt (x <<< ((8 : Int32) &&& 31)) i = (decide (8 ≤ i) && bt x (i - 8)) := b_shl 8 (by omega) x hi
theorem b_shl16 (x : Int32) {i : Nat} (hi : i < 32) : bt (x <<< ((16 : Int32) &&& 31)) i = (decide (16 ≤ i) && bt x (i - 16)) := b_shl 16 (by omega) x hi
theorem b_shl24 (x : Int32) {i : Nat} (hi : i < 32) : bt (x <<< ((24 : Int32) &&& 31)) i = (decide (24 ≤ i) && bt x (i - 24)) := b_shl 24 (by omega) x hi
theorem b_sshr8 (x : Int32) {i : Nat} (hi : i < 32) : bt (x >>> ((8 : Int32) &&& 31)) i = if 8 + i < 32 then bt x (8 + i) else bt x 31 := b_sshr 8 (by omega) x hi
/-! ===== a byte read unsigned ===== -/
theorem bp_b (x : Int32) : x.toInt8.toInt32 &&& 255 = x &&& 255 := by
  apply Int32.toBitVec_inj.mp
  rw [Int32.toBitVec_and, Int32.toBitVec_and, Int8.toBitVec_toInt32, Int32.toBitVec_toInt8]
  apply BitVec.eq_of_getLsbD_eq
  intro i hi
  rw [BitVec.getLsbD_and, BitVec.getLsbD_and]
  have hm : ∀ i < 32, 8 ≤ i → (255 : Int32).toBitVec.getLsbD i = false := by decide
  rcases Nat.lt_or_ge i 8 with z | z
  · rw [BitVec.getLsbD_signExtend, BitVec.getLsbD_signExtend, if_pos z, if_pos hi]
    simp only [z, hi, decide_true, Bool.true_and]
  · rw [hm i hi z]; simp
/-! ===== Int64 by its bits ===== -/
def sd_bl (x : Int64) (i : Nat) : Bool := x.toBitVec.getLsbD i
theorem sd_lext {x y : Int64} (h : ∀ i, i < 64 → sd_bl x i = sd_bl y i) : x = y := Int64.toBitVec_inj.mp (BitVec.eq_of_getLsbD_eq (fun i hi => h i hi))
theorem sd_lor (x y : Int64) (i : Nat) : sd_bl (x ||| y) i = (sd_bl x i || sd_bl y i) := by unfold sd_bl; rw [Int64.toBitVec_or, BitVec.getLsbD_or]
theorem sd_land (x y : Int64) (i : Nat) : sd_bl (x &&& y) i = (sd_bl x i && sd_bl y i) := by unfold sd_bl; rw [Int64.toBitVec_and, BitVec.getLsbD_and]
theorem sd_lxor (x y : Int64) (i : Nat) : sd_bl (x ^^^ y) i = (sd_bl x i ^^ sd_bl y i) := by unfold sd_bl; rw [Int64.toBitVec_xor, BitVec.getLsbD_xor]
theorem sd_lbig {x : Int64} {i : Nat} (h : 64 ≤ i) : sd_bl x i = false := BitVec.getLsbD_of_ge _ _ h
theorem sd_l0 (i : Nat) : sd_bl 0 i = false := BitVec.getLsbD_zero
theorem sd_sl : ∀ n, n < 64 → (((nI n).toInt64 &&& 63).toBitVec.smod 64).toNat = n := by decide +kernel
theorem sd_su : ∀ n, n < 64 → (((nI n).toInt64.toUInt64 &&& Int64.toUInt64 63).toBitVec % 64).toNat = n := by decide +kernel
theorem sd_m32 : ∀ i, i < 64 → sd_bl 4294967295 i = decide (i < 32) := by decide +kernel
theorem sd_lshl (n : Nat) (hn : n < 64) (x : Int64) {i : Nat} (hi : i < 64) : sd_bl (x <<< ((nI n).toInt64 &&& 63)) i = (decide (n ≤ i) && sd_bl x (i - n)) := by
  unfold sd_bl
  rw [Int64.toBitVec_shiftLeft]
  show (x.toBitVec <<< (((nI n).toInt64 &&& 63).toBitVec.smod 64).toNat).getLsbD i = _
  rw [sd_sl n hn, BitVec.getLsbD_shiftLeft]
  rcases Nat.lt_or_ge i n with h | h
  · simp [h, Nat.not_le.mpr h]
  · simp [hi, h, Nat.not_lt.mpr h]
theorem sd_lushr (n : Nat) (hn : n < 64) (x : Int64) (i : Nat) : sd_bl ((x.toUInt64 >>> ((nI n).toInt64.toUInt64 &&& Int64.toUInt64 63)).toInt64) i = sd_bl x (n + i) := by
  show (x.toUInt64 >>> ((nI n).toInt64.toUInt64 &&& Int64.toUInt64 63)).toBitVec.getLsbD i = x.toUInt64.toBitVec.getLsbD (n + i)
  rw [UInt64.toBitVec_shiftRight]
  show (x.toUInt64.toBitVec >>> (((nI n).toInt64.toUInt64 &&& Int64.toUInt64 63).toBitVec % 64).toNat).getLsbD i = _
  rw [sd_su n hn, BitVec.getLsbD_ushiftRight]
theorem sd_lsshr (n : Nat) (hn : n < 64) (x : Int64) {i : Nat} (hi : i < 64) : sd_bl (x >>> ((nI n).toInt64 &&& 63)) i = if n + i < 64 then sd_bl x (n + i) else sd_bl x 63 := by
  unfold sd_bl
  rw [Int64.toBitVec_shiftRight]
  show (x.toBitVec.sshiftRight (((nI n).toInt64 &&& 63).toBitVec.smod 64).toNat).getLsbD i = _
  rw [sd_sl n hn, BitVec.getLsbD_sshiftRight, BitVec.msb_eq_getLsbD_last]
  simp [hi]
theorem sd_l2i (x : Int64) {i : Nat} (hi : i < 32) : bt x.toInt32 i = sd_bl x i := by
  unfold bt sd_bl
  rw [Int64.toBitVec_toInt32, BitVec.getLsbD_signExtend]
  simp [hi, show i < 64 by omega]
theorem sd_i2l (x : Int32) {i : Nat} (hi : i < 64) : sd_bl x.toInt64 i = if i < 32 then bt x i else bt x 31 := by
  unfold bt sd_bl
  rw [Int32.toBitVec_toInt64, BitVec.getLsbD_signExtend, BitVec.msb_eq_getLsbD_last]
  simp [hi]
theorem sd_i2b (x : Int32) {i : Nat} (hi : i < 8) : bt x.toInt8.toInt32 i = bt x i := by
  unfold bt
  rw [Int8.toBitVec_toInt32, Int32.toBitVec_toInt8, BitVec.getLsbD_signExtend, BitVec.getLsbD_signExtend]
  simp [hi, show i < 32 by omega]
/-- two words side by side -/
def sd_jn (a b : Int32) : Int64 := (a.toInt64 <<< ((32 : Int32).toInt64 &&& 63)) ||| (b.toInt64 &&& 4294967295)
theorem sd_jn_lo (a b : Int32) {i : Nat} (h : i < 32) : sd_bl (sd_jn a b) i = bt b i := by
  have hi : i < 64 := by omega
  unfold sd_jn
  rw [sd_lor, sd_land, show (32 : Int32) = nI 32 from rfl, sd_lshl 32 (by omega) _ hi, sd_i2l b hi, sd_m32 i hi, if_pos h, decide_eq_false (show ¬ 32 ≤ i by omega), decide_eq_true h]
  simp
theorem sd_jn_hi (a b : Int32) {i : Nat} (h : 32 ≤ i) (hi : i < 64) : sd_bl (sd_jn a b) i = bt a (i - 32) := by
  unfold sd_jn
  rw [sd_lor, sd_land, show (32 : Int32) = nI 32 from rfl, sd_lshl 32 (by omega) _ hi, sd_m32 i hi, sd_i2l a (show i - 32 < 64 by omega), if_pos (show i - 32 < 32 by omega), decide_eq_true h, decide_eq_false (show ¬ i < 32 by omega)]
  simp
theorem sd_w0 (a b : Int32) : ((sd_jn a b) >>> ((32 : Int32).toInt64 &&& 63)).toInt32 = a := by
  apply b_ext
  intro i hi
  rw [sd_l2i _ hi, show (32 : Int32) = nI 32 from rfl, sd_lsshr 32 (by omega) _ (by omega), if_pos (by omega), sd_jn_hi a b (by omega) (by omega)]
  congr 1 <;> omega
theorem sd_w1 (a b : Int32) : (sd_jn a b).toInt32 = b := by
  apply b_ext
  intro i hi
  rw [sd_l2i _ hi, sd_jn_lo a b hi]
theorem sd_jn_xor (a b c d : Int32) : sd_jn a b ^^^ sd_jn c d = sd_jn (a ^^^ c) (b ^^^ d) := by
  apply sd_lext
  intro i hi
  rw [sd_lxor]
  rcases Nat.lt_or_ge i 32 with h | h
  · rw [sd_jn_lo _ _ h, sd_jn_lo _ _ h, sd_jn_lo _ _ h, b_xor]
  · rw [sd_jn_hi _ _ h hi, sd_jn_hi _ _ h hi, sd_jn_hi _ _ h hi, b_xor]
/-- the unsigned shifts as the machine makes them -/
abbrev sd_us (x n : Int32) : Int32 := (x.toUInt32 >>> (n.toUInt32 &&& Int32.toUInt32 31)).toInt32
abbrev sd_lus (x : Int64) (n : Int32) : Int64 := (x.toUInt64 >>> (n.toInt64.toUInt64 &&& Int64.toUInt64 63)).toInt64
theorem sd_rr (a b : Int32) : sd_lus (sd_jn a b) 8 ||| (sd_jn a b <<< ((56 : Int32).toInt64 &&& 63)) = sd_jn (sd_us a 8 ||| (b <<< ((24 : Int32) &&& 31))) (sd_us b 8 ||| (a <<< ((24 : Int32) &&& 31))) := by
  apply sd_lext
  intro i hi
  show sd_bl (sd_lus (sd_jn a b) (nI 8) ||| (sd_jn a b <<< ((nI 56).toInt64 &&& 63))) i = sd_bl (sd_jn (sd_us a (nI 8) ||| (b <<< (nI 24 &&& 31))) (sd_us b (nI 8) ||| (a <<< (nI 24 &&& 31)))) i
  rw [sd_lor, sd_lushr 8 (by omega), sd_lshl 56 (by omega) _ hi]
  rcases Nat.lt_or_ge i 32 with h | h
  · rw [sd_jn_lo _ _ h, b_or, b_ushr 8 (by omega), b_shl 24 (by omega) _ h, decide_eq_false (show ¬ 56 ≤ i by omega), Bool.false_and, Bool.or_false]
    rcases Nat.lt_or_ge i 24 with g | g
    · rw [sd_jn_lo _ _ (show 8 + i < 32 by omega), decide_eq_false (show ¬ 24 ≤ i by omega), Bool.false_and, Bool.or_false]
    · rw [sd_jn_hi _ _ (show 32 ≤ 8 + i by omega) (by omega), b_big (show 32 ≤ 8 + i by omega), decide_eq_true g, Bool.true_and, Bool.false_or]
      congr 1 <;> omega
  · have h2 : i - 32 < 32 := by omega
    rw [sd_jn_hi _ _ h hi, b_or, b_ushr 8 (by omega), b_shl 24 (by omega) _ h2]
    rcases Nat.lt_or_ge i 56 with g | g
    · rw [sd_jn_hi _ _ (show 32 ≤ 8 + i by omega) (by omega), decide_eq_false (show ¬ 56 ≤ i by omega), decide_eq_false (show ¬ 24 ≤ i - 32 by omega), Bool.false_and, Bool.false_and, Bool.or_false, Bool.or_false]
      congr 1 <;> omega
    · rw [sd_lbig (show 64 ≤ 8 + i by omega), b_big (show 32 ≤ 8 + (i - 32) by omega), decide_eq_true g, decide_eq_true (show 24 ≤ i - 32 by omega), Bool.true_and, Bool.true_and, Bool.false_or, Bool.false_or, sd_jn_lo _ _ (show i - 56 < 32 by omega)]
      congr 1 <;> omega
theorem sd_rl (a b : Int32) : (sd_jn a b <<< ((8 : Int32).toInt64 &&& 63)) ||| sd_lus (sd_jn a b) 56 = sd_jn ((a <<< ((8 : Int32) &&& 31)) ||| sd_us b 24) ((b <<< ((8 : Int32) &&& 31)) ||| sd_us a 24) := by
  apply sd_lext
  intro i hi
  show sd_bl ((sd_jn a b <<< ((nI 8).toInt64 &&& 63)) ||| sd_lus (sd_jn a b) (nI 56)) i = sd_bl (sd_jn ((a <<< (nI 8 &&& 31)) ||| sd_us b (nI 24)) ((b <<< (nI 8 &&& 31)) ||| sd_us a (nI 24))) i
  rw [sd_lor, sd_lushr 56 (by omega), sd_lshl 8 (by omega) _ hi]
  rcases Nat.lt_or_ge i 32 with h | h
  · rw [sd_jn_lo _ _ h, b_or, b_ushr 24 (by omega), b_shl 8 (by omega) _ h]
    rcases Nat.lt_or_ge i 8 with g | g
    · rw [sd_jn_hi _ _ (show 32 ≤ 56 + i by omega) (by omega), decide_eq_false (show ¬ 8 ≤ i by omega), Bool.false_and, Bool.false_and, Bool.false_or, Bool.false_or]
      congr 1 <;> omega
    · rw [sd_lbig (show 64 ≤ 56 + i by omega), b_big (show 32 ≤ 24 + i by omega), decide_eq_true g, sd_jn_lo _ _ (show i - 8 < 32 by omega)]
  · have h2 : i - 32 < 32 := by omega
    rw [sd_jn_hi _ _ h hi, b_or, b_ushr 24 (by omega), b_shl 8 (by omega) _ h2, sd_lbig (show 64 ≤ 56 + i by omega), decide_eq_true (show 8 ≤ i by omega), Bool.true_and, Bool.or_false]
    rcases Nat.lt_or_ge i 40 with g | g
    · rw [sd_jn_lo _ _ (show i - 8 < 32 by omega), decide_eq_false (show ¬ 8 ≤ i - 32 by omega), Bool.false_and, Bool.false_or]
      congr 1 <;> omega
    · rw [sd_jn_hi _ _ (show 32 ≤ i - 8 by omega) (by omega), decide_eq_true (show 8 ≤ i - 32 by omega), b_big (show 32 ≤ 24 + (i - 32) by omega), Bool.true_and, Bool.or_false]
      congr 1 <;> omega
/-! ===== bytes to words ===== -/
theorem sd_v255 (x : Int32) {i : Nat} (hi : i < 64) : sd_bl (x &&& 255).toInt64 i = (decide (i < 8) && bt x i) := by
  rw [sd_i2l _ hi]
  rcases Nat.lt_or_ge i 32 with h | h
  · rw [if_pos h, b_and, b_255, Bool.and_comm]
  · rw [if_neg (by omega), b_and, b_255, decide_eq_false (show ¬ 31 < 8 by omega), decide_eq_false (show ¬ i < 8 by omega), Bool.and_false, Bool.false_and]
theorem sd_addor (w : Int64) (x : Int32) : (w <<< ((8 : Int32).toInt64 &&& 63)) + (x &&& 255).toInt64 = (w <<< ((8 : Int32).toInt64 &&& 63)) ||| (x &&& 255).toInt64 := by
  apply Int64.toBitVec_inj.mp
  rw [Int64.toBitVec_add, Int64.toBitVec_or]
  apply BitVec.add_eq_or_of_and_eq_zero
  apply BitVec.eq_of_getLsbD_eq
  intro i hi
  rw [BitVec.getLsbD_and, BitVec.getLsbD_zero]
  show (sd_bl (w <<< ((nI 8).toInt64 &&& 63)) i && sd_bl (x &&& 255).toInt64 i) = false
  rw [sd_lshl 8 (by omega) _ hi, sd_v255 _ hi]
  rcases Nat.lt_or_ge i 8 with h | h
  · rw [decide_eq_false (show ¬ 8 ≤ i by omega), Bool.false_and, Bool.false_and]
  · rw [decide_eq_false (show ¬ i < 8 by omega), Bool.false_and, Bool.and_false]
/-- bytesToLong, k bytes read from o on -/
def sd_bw (f : Nat → Int32) (o : Nat) : Nat → Int64
  | 0 => 0
  | k + 1 => (sd_bw f o k <<< ((8 : Int32).toInt64 &&& 63)) + (f (k + o) &&& 255).toInt64
theorem sd_bw_bit (f : Nat → Int32) (o : Nat) : ∀ (k i : Nat), i < 64 → sd_bl (sd_bw f o k) i = (decide (i < 8 * k) && bt (f (k - 1 - i / 8 + o)) (i % 8)) := by
  intro k
  induction k with
  | zero =>
    intro i hi
    rw [decide_eq_false (show ¬ i < 8 * 0 by omega), Bool.false_and]
    exact sd_l0 i
  | succ k ih =>
    intro i hi
    show sd_bl ((sd_bw f o k <<< ((8 : Int32).toInt64 &&& 63)) + (f (k + o) &&& 255).toInt64) i = _
    rw [sd_addor, sd_lor, sd_v255 _ hi, show (8 : Int32) = nI 8 from rfl, sd_lshl 8 (by omega) _ hi]
    rcases Nat.lt_or_ge i 8 with h | h
    · rw [decide_eq_false (show ¬ 8 ≤ i by omega), decide_eq_true h, decide_eq_true (show i < 8 * (k + 1) by omega), Bool.false_and, Bool.true_and, Bool.false_or, Bool.true_and, show k + 1 - 1 - i / 8 + o = k + o by omega, show i % 8 = i by omega]
    · rw [decide_eq_true h, decide_eq_false (show ¬ i < 8 by omega), Bool.false_and, Bool.or_false, Bool.true_and, ih (i - 8) (by omega), show k - 1 - (i - 8) / 8 + o = k + 1 - 1 - i / 8 + o by omega, show (i - 8) % 8 = i % 8 by omega]
      rcases Nat.lt_or_ge i (8 * (k + 1)) with g | g
      · rw [decide_eq_true g, decide_eq_true (show i - 8 < 8 * k by omega)]
      · rw [decide_eq_false (show ¬ i < 8 * (k + 1) by omega), decide_eq_false (show ¬ i - 8 < 8 * k by omega)]
/-- the reference's four bytes as a word -/
def sd_w4 (g : Nat → Int32) (o : Nat) : Int32 := (((g o <<< ((24 : Int32) &&& 31)) ||| (g (o + 1) <<< ((16 : Int32) &&& 31))) ||| (g (o + 2) <<< ((8 : Int32) &&& 31))) ||| g (o + 3)
theorem sd_w4_bit {f g : Nat → Int32} {n : Nat} (h : ∀ j, j < n → g j = f j &&& 255) {o : Nat} (ho : o + 4 ≤ n) {i : Nat} (hi : i < 32) : bt (sd_w4 g o) i = bt (f (o + 3 - i / 8)) (i % 8) := by
  unfold sd_w4
  rw [b_or, b_or, b_or, b_shl24 _ hi, b_shl16 _ hi, b_shl8 _ hi, h o (by omega), h (o + 1) (by omega), h (o + 2) (by omega), h (o + 3) (by omega), b_and, b_and, b_and, b_and, b_255, b_255, b_255, b_255]
  rcases (show i < 8 ∨ (8 ≤ i ∧ i < 16) ∨ (16 ≤ i ∧ i < 24) ∨ 24 ≤ i by omega) with z | z | z | z
  · rw [show o + 3 - i / 8 = o + 3 by omega, show i % 8 = i by omega, decide_eq_false (show ¬ 24 ≤ i by omega), decide_eq_false (show ¬ 16 ≤ i by omega), decide_eq_false (show ¬ 8 ≤ i by omega), decide_eq_true (show i < 8 by omega)]
    simp
  · rw [show o + 3 - i / 8 = o + 2 by omega, show i % 8 = i - 8 by omega, decide_eq_false (show ¬ 24 ≤ i by omega), decide_eq_false (show ¬ 16 ≤ i by omega), decide_eq_true (show 8 ≤ i by omega), decide_eq_true (show i - 8 < 8 by omega), decide_eq_false (show ¬ i < 8 by omega)]
    simp
  · rw [show o + 3 - i / 8 = o + 1 by omega, show i % 8 = i - 16 by omega, decide_eq_false (show ¬ 24 ≤ i by omega), decide_eq_true (show 16 ≤ i by omega), decide_eq_true (show i - 16 < 8 by omega), decide_eq_false (show ¬ i - 8 < 8 by omega), decide_eq_false (show ¬ i < 8 by omega)]
    simp
  · rw [show o + 3 - i / 8 = o by omega, show i % 8 = i - 24 by omega, decide_eq_true (show 24 ≤ i by omega), decide_eq_true (show i - 24 < 8 by omega), decide_eq_false (show ¬ i - 16 < 8 by omega), decide_eq_false (show ¬ i - 8 < 8 by omega), decide_eq_false (show ¬ i < 8 by omega)]
    simp
theorem sd_bw8 {f g : Nat → Int32} {n : Nat} (h : ∀ j, j < n → g j = f j &&& 255) {o : Nat} (ho : o + 8 ≤ n) : sd_bw f o 8 = sd_jn (sd_w4 g o) (sd_w4 g (o + 4)) := by
  apply sd_lext
  intro i hi
  rw [sd_bw_bit f o 8 i hi, decide_eq_true (show i < 8 * 8 by omega), Bool.true_and]
  rcases Nat.lt_or_ge i 32 with z | z
  · rw [sd_jn_lo _ _ z, sd_w4_bit h (by omega) z, show 8 - 1 - i / 8 + o = o + 4 + 3 - i / 8 by omega]
  · rw [sd_jn_hi _ _ z hi, sd_w4_bit h (by omega) (by omega), show 8 - 1 - i / 8 + o = o + 3 - (i - 32) / 8 by omega, show i % 8 = (i - 32) % 8 by omega]
/-! ===== words to bytes ===== -/
/-- the k-th byte of a word, the highest first, as the reference makes it -/
def sd_by (w : Int32) (k : Nat) : Int32 := sd_us w (24 - 8 * nI k) &&& 255
theorem sd_k8 : ∀ k, k < 4 → (24 : Int32) - 8 * nI k = nI (24 - 8 * k) := by decide +kernel
theorem sd_j8 : ∀ j, j < 8 → ((7 : Int32) - nI j) * 8 = nI ((7 - j) * 8) := by decide +kernel
theorem sd_by_bit (w : Int32) {k : Nat} (hk : k < 4) {i : Nat} (hi : i < 32) : bt (sd_by w k) i = (decide (i < 8) && bt w (24 - 8 * k + i)) := by
  unfold sd_by
  rw [sd_k8 k hk, b_and, b_255, b_ushr (24 - 8 * k) (by omega), Bool.and_comm]
theorem sd_low {x y : Int32} (h : ∀ i, i < 8 → bt x i = bt y i) : x &&& 255 = y &&& 255 := by
  apply b_ext
  intro i hi
  rw [b_and, b_and, b_255]
  rcases Nat.lt_or_ge i 8 with z | z
  · rw [h i z]
  · rw [decide_eq_false (show ¬ i < 8 by omega), Bool.and_false, Bool.and_false]
theorem sd_by_low (w : Int32) {k : Nat} (hk : k < 4) : sd_by w k &&& 255 = sd_by w k := by
  apply b_ext
  intro i hi
  rw [b_and, b_255, sd_by_bit w hk hi]
  cases decide (i < 8) <;> simp
theorem sd_of_low {x w : Int32} {k : Nat} (hk : k < 4) (h : ∀ i, i < 8 → bt x i = bt w (24 - 8 * k + i)) : x &&& 255 = sd_by w k := by
  rw [← sd_by_low w hk]
  apply sd_low
  intro i hi
  rw [h i hi, sd_by_bit w hk (by omega), decide_eq_true hi, Bool.true_and]
/-- longToBytes' byte j of two words -/
theorem sd_lb (a b : Int32) {j : Nat} (hj : j < 8) : ((sd_jn a b >>> ((((7 : Int32) - nI j) * 8).toInt64 &&& 63)).toInt32).toInt8.toInt32 &&& 255 = if j < 4 then sd_by a j else sd_by b (j - 4) := by
  have key : ∀ i, i < 8 → bt ((sd_jn a b >>> ((((7 : Int32) - nI j) * 8).toInt64 &&& 63)).toInt32).toInt8.toInt32 i = sd_bl (sd_jn a b) ((7 - j) * 8 + i) := by
    intro i hi
    rw [sd_i2b _ hi, sd_l2i _ (by omega), sd_j8 j hj, sd_lsshr ((7 - j) * 8) (by omega) _ (by omega), if_pos (by omega)]
  rcases Nat.lt_or_ge j 4 with z | z
  · rw [if_pos z]
    apply sd_of_low z
    intro i hi
    rw [key i hi, sd_jn_hi _ _ (by omega) (by omega)]
    congr 1 <;> omega
  · rw [if_neg (by omega)]
    apply sd_of_low (by omega)
    intro i hi
    rw [key i hi, sd_jn_lo _ _ (by omega)]
    congr 1 <;> omega
/-- the desk's bytes of a word -/
theorem sd_wb (w : Int32) (k : Nat) (hk : k < 4) : ((w >>> (nI (24 - 8 * k) &&& 31)).toInt8.toInt32) &&& 255 = sd_by w k := by
  apply sd_of_low hk
  intro i hi
  rw [sd_i2b _ hi, b_sshr (24 - 8 * k) (by omega) _ (by omega), if_pos (by omega)]
theorem sd_wb0 (w : Int32) : ((w >>> ((24 : Int32) &&& 31)).toInt8.toInt32) &&& 255 = sd_by w 0 := sd_wb w 0 (by omega)
theorem sd_wb1 (w : Int32) : ((w >>> ((16 : Int32) &&& 31)).toInt8.toInt32) &&& 255 = sd_by w 1 := sd_wb w 1 (by omega)
theorem sd_wb2 (w : Int32) : ((w >>> ((8 : Int32) &&& 31)).toInt8.toInt32) &&& 255 = sd_by w 2 := sd_wb w 2 (by omega)
theorem sd_wb3 (w : Int32) : (w.toInt8.toInt32) &&& 255 = sd_by w 3 := by
  apply sd_of_low (by omega)
  intro i hi
  rw [sd_i2b _ hi]
  congr 1 <;> omega
/-! ===== four bytes packed ===== -/
def sd_pk (z0 z1 z2 z3 : Int32) : Int32 := ((z0 ||| (z1 <<< ((8 : Int32) &&& 31))) ||| (z2 <<< ((16 : Int32) &&& 31))) ||| (z3 <<< ((24 : Int32) &&& 31))
def sd_sm (z : Int32) : Prop := ∀ i, 8 ≤ i → bt z i = false
theorem sd_sm_and {x m : Int32} (h : sd_sm m) : sd_sm (x &&& m) := fun i hi => by rw [b_and, h i hi, Bool.and_false]
theorem sd_sm_xor {x y : Int32} (h : sd_sm x) (g : sd_sm y) : sd_sm (x ^^^ y) := fun i hi => by rw [b_xor, h i hi, g i hi]; rfl
theorem sd_sm_0 : sd_sm 0 := fun i _ => b_0 i
theorem sd_pk_bit {z0 z1 z2 z3 : Int32} (h0 : sd_sm z0) (h1 : sd_sm z1) (h2 : sd_sm z2) {i : Nat} (hi : i < 32) : bt (sd_pk z0 z1 z2 z3) i = if i < 8 then bt z0 i else if i < 16 then bt z1 (i - 8) else if i < 24 then bt z2 (i - 16) else bt z3 (i - 24) := by
  unfold sd_pk
  rw [b_or, b_or, b_or, b_shl24 _ hi, b_shl16 _ hi, b_shl8 _ hi]
  rcases (show i < 8 ∨ (8 ≤ i ∧ i < 16) ∨ (16 ≤ i ∧ i < 24) ∨ 24 ≤ i by omega) with z | z | z | z
  · rw [if_pos z, decide_eq_false (show ¬ 24 ≤ i by omega), decide_eq_false (show ¬ 16 ≤ i by omega), decide_eq_false (show ¬ 8 ≤ i by omega)]
    simp
  · rw [if_neg (by omega), if_pos z.2, h0 i (by omega), decide_eq_false (show ¬ 24 ≤ i by omega), decide_eq_false (show ¬ 16 ≤ i by omega), decide_eq_true z.1]
    simp
  · rw [if_neg (by omega), if_neg (by omega), if_pos z.2, h0 i (by omega), h1 (i - 8) (by omega), decide_eq_false (show ¬ 24 ≤ i by omega), decide_eq_true z.1]
    simp
  · rw [if_neg (by omega), if_neg (by omega), if_neg (by omega), h0 i (by omega), h1 (i - 8) (by omega), h2 (i - 16) (by omega), decide_eq_true z]
    simp
theorem sd_pk_xor {a0 a1 a2 a3 b0 b1 b2 b3 : Int32} (h0 : sd_sm a0) (h1 : sd_sm a1) (h2 : sd_sm a2) (g0 : sd_sm b0) (g1 : sd_sm b1) (g2 : sd_sm b2) : sd_pk a0 a1 a2 a3 ^^^ sd_pk b0 b1 b2 b3 = sd_pk (a0 ^^^ b0) (a1 ^^^ b1) (a2 ^^^ b2) (a3 ^^^ b3) := by
  apply b_ext
  intro i hi
  rw [b_xor, sd_pk_bit h0 h1 h2 hi, sd_pk_bit g0 g1 g2 hi, sd_pk_bit (sd_sm_xor h0 g0) (sd_sm_xor h1 g1) (sd_sm_xor h2 g2) hi, b_xor, b_xor, b_xor, b_xor]
  by_cases z1 : i < 8
  · rw [if_pos z1, if_pos z1, if_pos z1]
  · rw [if_neg z1, if_neg z1, if_neg z1]
    by_cases z2 : i < 16
    · rw [if_pos z2, if_pos z2, if_pos z2]
    · rw [if_neg z2, if_neg z2, if_neg z2]
      by_cases z3 : i < 24
      · rw [if_pos z3, if_pos z3, if_pos z3]
      · rw [if_neg z3, if_neg z3, if_neg z3]
end
section
/-! ===== the boxes and what both sides make of them ===== -/
def sd_firstL : List Int32 := [169, 133, 214, 211, 84, 29, 172, 37, 93, 67, 24, 30, 81, 252, 202, 99, 40, 68, 32, 157, 224, 226, 200, 23, 165, 143, 3, 123, 187, 19, 210, 238, 112, 140, 63, 168, 50, 221, 246, 116, 236, 149, 11, 87, 92, 91, 189, 1, 36, 28, 115, 152, 16, 204, 242, 217, 44, 231, 114, 131, 155, 209, 134, 201, 96, 80, 163, 235, 13, 182, 158, 79, 183, 90, 198, 120, 166, 18, 175, 213, 97, 195, 180, 65, 82, 125, 141, 8, 31, 153, 0, 25, 4, 83, 247, 225, 253, 118, 47, 39, 176, 139, 14, 171, 162, 110, 147, 77, 105, 124, 9, 10, 191, 239, 243, 197, 135, 20, 254, 100, 222, 46, 75, 26, 6, 33, 107, 102, 2, 245, 146, 138, 12, 179, 126, 208, 122, 71, 150, 229, 38, 128, 173, 223, 161, 48, 55, 174, 54, 21, 34, 56, 244, 167, 69, 76, 129, 233, 132, 151, 53, 203, 206, 60, 113, 17, 199, 137, 117, 251, 218, 248, 148, 89, 130, 196, 255, 73, 57, 103, 192, 207, 215, 184, 15, 142, 66, 35, 145, 108, 219, 164, 52, 241, 72, 194, 111, 61, 45, 64, 190, 62, 188, 193, 170, 186, 78, 85, 59, 220, 104, 127, 156, 216, 74, 86, 119, 160, 237, 70, 181, 43, 101, 250, 227, 185, 177, 159, 94, 249, 230, 178, 49, 234, 109, 95, 228, 240, 205, 136, 22, 58, 88, 212, 98, 41, 7, 51, 232, 27, 5, 121, 144, 106, 42, 154]
def sd_secondL : List Int32 := [56, 232, 45, 166, 207, 222, 179, 184, 175, 96, 85, 199, 68, 111, 107, 91, 195, 98, 51, 181, 41, 160, 226, 167, 211, 145, 17, 6, 28, 188, 54, 75, 239, 136, 108, 168, 23, 196, 22, 244, 194, 69, 225, 214, 63, 61, 142, 152, 40, 78, 246, 62, 165, 249, 13, 223, 216, 43, 102, 122, 39, 47, 241, 114, 66, 212, 65, 192, 115, 103, 172, 139, 247, 173, 128, 31, 202, 44, 170, 52, 210, 11, 238, 233, 93, 148, 24, 248, 87, 174, 8, 197, 19, 205, 134, 185, 255, 125, 193, 49, 245, 138, 106, 177, 209, 32, 215, 2, 34, 4, 104, 113, 7, 219, 157, 153, 97, 190, 230, 89, 221, 81, 144, 220, 154, 163, 171, 208, 129, 15, 71, 26, 227, 236, 141, 191, 150, 123, 92, 162, 161, 99, 35, 77, 200, 158, 156, 58, 12, 46, 186, 110, 159, 90, 242, 146, 243, 73, 120, 204, 21, 251, 112, 117, 127, 53, 16, 3, 100, 109, 198, 116, 213, 180, 234, 9, 118, 25, 254, 64, 18, 224, 189, 5, 250, 1, 240, 42, 94, 169, 86, 67, 133, 20, 137, 155, 176, 229, 72, 121, 151, 252, 30, 130, 33, 140, 27, 95, 119, 84, 178, 29, 37, 79, 0, 70, 237, 88, 82, 235, 126, 218, 201, 253, 48, 149, 101, 60, 182, 228, 187, 124, 14, 80, 57, 38, 50, 132, 105, 147, 55, 231, 36, 164, 203, 83, 10, 135, 217, 76, 131, 143, 206, 59, 74, 183]
def sd_first (j : Nat) : Int32 := sd_firstL.getD j 0
def sd_second (j : Nat) : Int32 := sd_secondL.getD j 0
def sd_masks (j : Nat) : Int32 := ([252, 243, 207, 63] : List Int32).getD j 0
/-- a box's byte spread over the four places, the masks from f on -/
def sd_h (f : Nat) (b : Int32) : Int32 := sd_pk (b &&& sd_masks (f % 4)) (b &&& sd_masks ((1 + f) % 4)) (b &&& sd_masks ((2 + f) % 4)) (b &&& sd_masks ((3 + f) % 4))
def sd_s0 (j : Nat) : Int32 := sd_h 0 (sd_first j)
def sd_s1 (j : Nat) : Int32 := sd_h 1 (sd_second j)
def sd_s2 (j : Nat) : Int32 := sd_h 2 (sd_first j)
def sd_s3 (j : Nat) : Int32 := sd_h 3 (sd_second j)
/-- the function G, as the engine makes it -/
def sd_G (x : Int32) : Int32 := ((sd_s0 (x &&& 255).toNatClampNeg ^^^ sd_s1 ((x >>> ((8 : Int32) &&& 31)) &&& 255).toNatClampNeg) ^^^ sd_s2 ((x >>> ((16 : Int32) &&& 31)) &&& 255).toNatClampNeg) ^^^ sd_s3 ((x >>> ((24 : Int32) &&& 31)) &&& 255).toNatClampNeg
/-- the reference's loops -/
def sd_gz (b : Nat → Int32) (t : Nat) : Nat → Int32
  | 0 => 0
  | f + 1 => sd_gz b t f ^^^ (b f &&& sd_masks ((t + f) % 4))
def sd_gm (b : Nat → Int32) : Nat → Int32
  | 0 => 0
  | t + 1 => sd_gm b t ||| (sd_gz b t 4 <<< ((8 * nI t) &&& 31))
theorem sd_mk_sm : ∀ j, j < 4 → sd_sm (sd_masks j) := by
  intro j hj i hi
  rcases Nat.lt_or_ge i 32 with h | h
  · exact (by decide +kernel : ∀ j, j < 4 → ∀ i, i < 32 → 8 ≤ i → bt (sd_masks j) i = false) j hj i h hi
  · exact b_big h
theorem sd_am (b : Int32) (n : Nat) : sd_sm (b &&& sd_masks (n % 4)) := sd_sm_and (sd_mk_sm _ (Nat.mod_lt _ (by omega)))
theorem sd_gm4 (b : Nat → Int32) : sd_gm b 4 = ((sd_h 0 (b 0) ^^^ sd_h 1 (b 1)) ^^^ sd_h 2 (b 2)) ^^^ sd_h 3 (b 3) := by
  have e0 : ∀ x : Int32, (0 : Int32) ||| (x <<< ((8 * nI 0) &&& 31)) = x := by
    intro x
    apply b_ext
    intro i hi
    show bt ((0 : Int32) ||| (x <<< (nI 0 &&& 31))) i = _
    rw [b_or, b_shl 0 (by omega) _ hi, b_0]
    simp
  have ez : ∀ t, sd_gz b t 4 = (((b 0 &&& sd_masks ((t + 0) % 4)) ^^^ (b 1 &&& sd_masks ((t + 1) % 4))) ^^^ (b 2 &&& sd_masks ((t + 2) % 4))) ^^^ (b 3 &&& sd_masks ((t + 3) % 4)) := by
    intro t
    show ((((0 : Int32) ^^^ (b 0 &&& sd_masks ((t + 0) % 4))) ^^^ (b 1 &&& sd_masks ((t + 1) % 4))) ^^^ (b 2 &&& sd_masks ((t + 2) % 4))) ^^^ (b 3 &&& sd_masks ((t + 3) % 4)) = _
    have e : ∀ x : Int32, (0 : Int32) ^^^ x = x := by
      intro x
      apply b_ext
      intro i hi
      rw [b_xor, b_0]
      simp
    rw [e]
  have e1 : sd_gm b 4 = sd_pk (sd_gz b 0 4) (sd_gz b 1 4) (sd_gz b 2 4) (sd_gz b 3 4) := by
    show ((((0 : Int32) ||| (sd_gz b 0 4 <<< ((8 * nI 0) &&& 31))) ||| (sd_gz b 1 4 <<< ((8 * nI 1) &&& 31))) ||| (sd_gz b 2 4 <<< ((8 * nI 2) &&& 31))) ||| (sd_gz b 3 4 <<< ((8 * nI 3) &&& 31)) = _
    rw [e0]
    rfl
  rw [e1, ez, ez, ez, ez]
  unfold sd_h
  rw [sd_pk_xor (sd_am _ _) (sd_am _ _) (sd_am _ _) (sd_am _ _) (sd_am _ _) (sd_am _ _)]
  rw [sd_pk_xor (sd_sm_xor (sd_am _ _) (sd_am _ _)) (sd_sm_xor (sd_am _ _) (sd_am _ _)) (sd_sm_xor (sd_am _ _) (sd_am _ _)) (sd_am _ _) (sd_am _ _) (sd_am _ _)]
  rw [sd_pk_xor (sd_sm_xor (sd_sm_xor (sd_am _ _) (sd_am _ _)) (sd_am _ _)) (sd_sm_xor (sd_sm_xor (sd_am _ _) (sd_am _ _)) (sd_am _ _)) (sd_sm_xor (sd_sm_xor (sd_am _ _) (sd_am _ _)) (sd_am _ _)) (sd_am _ _) (sd_am _ _) (sd_am _ _)]
/-- the indices of both sides -/
theorem sd_ix1 (x : Int32) : sd_us x 8 &&& 255 = (x >>> ((8 : Int32) &&& 31)) &&& 255 := by
  apply sd_low
  intro i hi
  show bt (sd_us x (nI 8)) i = bt (x >>> (nI 8 &&& 31)) i
  rw [b_ushr 8 (by omega), b_sshr 8 (by omega) _ (by omega), if_pos (by omega)]
theorem sd_ix2 (x : Int32) : sd_us x 16 &&& 255 = (x >>> ((16 : Int32) &&& 31)) &&& 255 := by
  apply sd_low
  intro i hi
  show bt (sd_us x (nI 16)) i = bt (x >>> (nI 16 &&& 31)) i
  rw [b_ushr 16 (by omega), b_sshr 16 (by omega) _ (by omega), if_pos (by omega)]
theorem sd_ix3 (x : Int32) : sd_us x 24 = (x >>> ((24 : Int32) &&& 31)) &&& 255 := by
  apply b_ext
  intro i hi
  show bt (sd_us x (nI 24)) i = bt ((x >>> (nI 24 &&& 31)) &&& 255) i
  rw [b_ushr 24 (by omega), b_and, b_255, b_sshr 24 (by omega) _ hi]
  rcases Nat.lt_or_ge i 8 with h | h
  · rw [if_pos (by omega), decide_eq_true h, Bool.and_true]
  · rw [b_big (by omega), decide_eq_false (by omega), Bool.and_false]
/-- the reference's boxed bytes -/
def sd_bx (x : Int32) : Nat → Int32 := upd (upd (upd (upd (fun _ => 0) 0 (sd_first (x &&& 255).toNatClampNeg)) 1 (sd_second (sd_us x 8 &&& 255).toNatClampNeg)) 2 (sd_first (sd_us x 16 &&& 255).toNatClampNeg)) 3 (sd_second (sd_us x 24).toNatClampNeg)
theorem sd_gm_G (x : Int32) : sd_gm (sd_bx x) 4 = sd_G x := by
  have h0 : sd_bx x 0 = sd_first (x &&& 255).toNatClampNeg := rfl
  have h1 : sd_bx x 1 = sd_second (sd_us x 8 &&& 255).toNatClampNeg := rfl
  have h2 : sd_bx x 2 = sd_first (sd_us x 16 &&& 255).toNatClampNeg := rfl
  have h3 : sd_bx x 3 = sd_second (sd_us x 24).toNatClampNeg := rfl
  rw [sd_gm4, h0, h1, h2, h3, sd_ix1, sd_ix2, sd_ix3]
  rfl
/-! ===== the keys of the rounds ===== -/
def sd_kc (i : Nat) : Int32 := ([-1640531527, 1013904243, 2027808486, -239350324, -478700647, -957401293, -1914802585, 465362127, 930724254, 1861448508, -572070280, -1144140559, 2006686179, -281594938, -563189875, -1126379749] : List Int32).getD i 0
/-- the reference's constant -/
def sd_km : Nat → Int32
  | 0 => -1640531527
  | i + 1 => (sd_km i <<< ((1 : Int32) &&& 31)) ||| sd_us (sd_km i) 31
theorem sd_km_kc : ∀ i, i < 16 → sd_km i = sd_kc i := by decide +kernel
/-- the four key words ahead of round i -/
def sd_ks (a b c d : Int32) : Nat → Int32 × Int32 × Int32 × Int32
  | 0 => (a, b, c, d)
  | i + 1 => if i % 2 = 0 then (sd_us (sd_ks a b c d i).1 8 ||| ((sd_ks a b c d i).2.1 <<< ((24 : Int32) &&& 31)), sd_us (sd_ks a b c d i).2.1 8 ||| ((sd_ks a b c d i).1 <<< ((24 : Int32) &&& 31)), (sd_ks a b c d i).2.2.1, (sd_ks a b c d i).2.2.2)
    else ((sd_ks a b c d i).1, (sd_ks a b c d i).2.1, ((sd_ks a b c d i).2.2.1 <<< ((8 : Int32) &&& 31)) ||| sd_us (sd_ks a b c d i).2.2.2 24, ((sd_ks a b c d i).2.2.2 <<< ((8 : Int32) &&& 31)) ||| sd_us (sd_ks a b c d i).2.2.1 24)
/-- the j-th round key -/
def sd_rk (a b c d : Int32) (j : Nat) : Int32 := if j % 2 = 0 then sd_G ((sd_ks a b c d (j / 2)).1 + (sd_ks a b c d (j / 2)).2.2.1 - sd_kc (j / 2)) else sd_G ((sd_ks a b c d (j / 2)).2.1 - (sd_ks a b c d (j / 2)).2.2.2 + sd_kc (j / 2))
/-! ===== a round ===== -/
def sd_f1 (c d : Int32) : Int32 := sd_G (sd_G (c ^^^ d) + c)
def sd_f2 (c d : Int32) : Int32 := sd_G (sd_f1 c d + sd_G (c ^^^ d))
/-- the four words behind k rounds, K the keys, o the rounds' order -/
def sd_rs (K : Nat → Int32) (o : Nat → Nat) (w : Int32 × Int32 × Int32 × Int32) : Nat → Int32 × Int32 × Int32 × Int32
  | 0 => w
  | k + 1 => ((sd_rs K o w k).2.2.1, (sd_rs K o w k).2.2.2, (sd_rs K o w k).1 ^^^ (sd_f2 ((sd_rs K o w k).2.2.1 ^^^ K (2 * o k)) ((sd_rs K o w k).2.2.2 ^^^ K (2 * o k + 1)) + sd_f1 ((sd_rs K o w k).2.2.1 ^^^ K (2 * o k)) ((sd_rs K o w k).2.2.2 ^^^ K (2 * o k + 1))), (sd_rs K o w k).2.1 ^^^ sd_f2 ((sd_rs K o w k).2.2.1 ^^^ K (2 * o k)) ((sd_rs K o w k).2.2.2 ^^^ K (2 * o k + 1)))
/-- the order of the rounds: b = 0 is the backward one -/
def sd_or (b : Int32) (k : Nat) : Nat := if b = 0 then 15 - k else k
/-- the answer's j-th byte, key kf and block bf by their bytes without sign -/
def sd_fin (b : Int32) (kf bf : Nat → Int32) : Int32 × Int32 × Int32 × Int32 := sd_rs (sd_rk (sd_w4 kf 0) (sd_w4 kf 4) (sd_w4 kf 8) (sd_w4 kf 12)) (sd_or b) (sd_w4 bf 0, sd_w4 bf 4, sd_w4 bf 8, sd_w4 bf 12) 16
def sd_ans (b : Int32) (kf bf : Nat → Int32) (j : Nat) : Int32 := if j < 4 then sd_by (sd_fin b kf bf).2.2.1 j else if j < 8 then sd_by (sd_fin b kf bf).2.2.2 (j - 4) else if j < 12 then sd_by (sd_fin b kf bf).1 (j - 8) else sd_by (sd_fin b kf bf).2.1 (j - 12)
/-- a word put into bytes at o -/
def sd_put (g : Nat → Int32) (o : Nat) (w : Int32) (j : Nat) : Int32 := if o ≤ j ∧ j < o + 4 then sd_by w (j - o) else g j
theorem sd_w4_congr {f g : Nat → Int32} {n o : Nat} (h : ∀ j, j < n → f j = g j) (ho : o + 4 ≤ n) : sd_w4 f o = sd_w4 g o := by
  unfold sd_w4
  rw [h o (by omega), h (o + 1) (by omega), h (o + 2) (by omega), h (o + 3) (by omega)]
theorem sd_fin_congr {b : Int32} {kf kg bf bg : Nat → Int32} (hk : ∀ j, j < 16 → kf j = kg j) (hb : ∀ j, j < 16 → bf j = bg j) : sd_fin b kf bf = sd_fin b kg bg := by
  unfold sd_fin
  rw [sd_w4_congr (o := 0) hk (by omega), sd_w4_congr (o := 4) hk (by omega), sd_w4_congr (o := 8) hk (by omega), sd_w4_congr (o := 12) hk (by omega), sd_w4_congr (o := 0) hb (by omega), sd_w4_congr (o := 4) hb (by omega), sd_w4_congr (o := 8) hb (by omega), sd_w4_congr (o := 12) hb (by omega)]
theorem sd_ans_congr {b : Int32} {kf kg bf bg : Nat → Int32} (hk : ∀ j, j < 16 → kf j = kg j) (hb : ∀ j, j < 16 → bf j = bg j) (j : Nat) : sd_ans b kf bf j = sd_ans b kg bg j := by
  unfold sd_ans
  rw [sd_fin_congr hk hb]
/-! ===== steps of the loops, in plain numbers ===== -/
theorem sd_stp {f u b : Nat → Int32} {o i e : Nat} (h : ∀ j, u j = if o ≤ j ∧ j < o + i then b (j - o) else f j) (he : e = o + i) : ∀ j, upd u e (b i) j = if o ≤ j ∧ j < o + (i + 1) then b (j - o) else f j := by
  intro j
  subst he
  unfold upd
  by_cases q : j = o + i
  · rw [if_pos q, if_pos (by omega), show j - o = i by omega]
  · rw [if_neg q, h j]
    by_cases g : o ≤ j ∧ j < o + i
    · rw [if_pos g, if_pos (by omega)]
    · rw [if_neg g, if_neg (by omega)]
theorem sd_stp0 {f b : Nat → Int32} {o : Nat} : ∀ j, f j = if o ≤ j ∧ j < o + 0 then b (j - o) else f j := by
  intro j
  rw [if_neg (by omega)]
theorem sd_two {u K : Nat → Int32} {i : Nat} {x y : Int32} (h : ∀ j, j < 2 * i → u j = K j) (hx : x = K (2 * i)) (hy : y = K (2 * i + 1)) : ∀ j, j < 2 * (i + 1) → upd (upd u (2 * i) x) (2 * i + 1) y j = K j := by
  intro j hj
  unfold upd
  by_cases q : j = 2 * i + 1
  · rw [if_pos q, hy, q]
  · rw [if_neg q]
    by_cases q2 : j = 2 * i
    · rw [if_pos q2, hx, q2]
    · rw [if_neg q2]
      exact h j (by omega)
section SDK
variable {a b c d a1 b1 c1 d1 : Int32} {i : Nat}
theorem sd_ks_e (h : i % 2 = 0) (hq : sd_ks a b c d i = (a1, b1, c1, d1)) : sd_ks a b c d (i + 1) = (sd_us a1 8 ||| (b1 <<< ((24 : Int32) &&& 31)), sd_us b1 8 ||| (a1 <<< ((24 : Int32) &&& 31)), c1, d1) := by
  rw [sd_ks, if_pos h, hq]
theorem sd_ks_o (h : ¬ i % 2 = 0) (hq : sd_ks a b c d i = (a1, b1, c1, d1)) : sd_ks a b c d (i + 1) = (a1, b1, (c1 <<< ((8 : Int32) &&& 31)) ||| sd_us d1 24, (d1 <<< ((8 : Int32) &&& 31)) ||| sd_us c1 24) := by
  rw [sd_ks, if_neg h, hq]
theorem sd_rk_e (hq : sd_ks a b c d i = (a1, b1, c1, d1)) : sd_G ((a1 + c1) - sd_kc i) = sd_rk a b c d (2 * i) := by
  unfold sd_rk
  rw [if_pos (by omega), show 2 * i / 2 = i by omega, hq]
theorem sd_rk_o (hq : sd_ks a b c d i = (a1, b1, c1, d1)) : sd_G ((b1 - d1) + sd_kc i) = sd_rk a b c d (2 * i + 1) := by
  unfold sd_rk
  rw [if_neg (by omega), show (2 * i + 1) / 2 = i by omega, hq]
end SDK
theorem sd_rs_s {K : Nat → Int32} {o : Nat → Nat} {w : Int32 × Int32 × Int32 × Int32} {k : Nat} {l0 l1 r0 r1 : Int32} (hq : sd_rs K o w k = (l0, l1, r0, r1)) : sd_rs K o w (k + 1) = (r0, r1, l0 ^^^ (sd_f2 (r0 ^^^ K (2 * o k)) (r1 ^^^ K (2 * o k + 1)) + sd_f1 (r0 ^^^ K (2 * o k)) (r1 ^^^ K (2 * o k + 1))), l1 ^^^ sd_f2 (r0 ^^^ K (2 * o k)) (r1 ^^^ K (2 * o k + 1))) := by
  rw [sd_rs, hq]
theorem sd_rs_congr {K K' : Nat → Int32} {o : Nat → Nat} {w : Int32 × Int32 × Int32 × Int32} (n : Nat) (hK : ∀ j, j < 32 → K j = K' j) (ho : ∀ k, k < n → o k < 16) : ∀ k, k ≤ n → sd_rs K o w k = sd_rs K' o w k := by
  intro k
  induction k with
  | zero => intro _; rfl
  | succ k ih =>
    intro hk
    have h1 := ho k (by omega)
    rw [sd_rs, sd_rs, ih (by omega), hK (2 * o k) (by omega), hK (2 * o k + 1) (by omega)]
theorem sd_or_lt (b : Int32) {k : Nat} (hk : k < 16) : sd_or b k < 16 := by
  unfold sd_or
  split <;> omega
theorem sd_mod0 {i : Nat} (h : nI (i % 2) = 0) : i % 2 = 0 := by
  rcases Nat.mod_two_eq_zero_or_one i with q | q
  · exact q
  · rw [q] at h
    exact absurd h (by decide)
theorem sd_mod1 {i : Nat} (h : ¬ nI (i % 2) = 0) : ¬ i % 2 = 0 := fun q => h (by rw [q]; rfl)
/-- longToBytes' byte k, with its sign -/
def sd_lbr (v : Int64) (k : Nat) : Int32 := ((v >>> ((((7 : Int32) - nI k) * 8).toInt64 &&& 63)).toInt32).toInt8.toInt32
theorem sd_rem2 {i : Nat} (h : i < 16) : nI i - nI i / 2 * 2 = nI (i % 2) := pk_rem (d := 2) (by omega) (by omega) (by omega)
theorem sd_7 : ∀ i, i < 8 → ¬ (7 : Int32) < nI i := by decide +kernel
theorem sd_g4 : ∀ i, i < 4 → ¬ (4 : Int32) ≤ nI i := by decide +kernel
theorem sd_g8 : ∀ i, i < 8 → ¬ (8 : Int32) ≤ nI i := by decide +kernel
theorem sd_g16 : ∀ i, i < 16 → ¬ (16 : Int32) ≤ nI i := by decide +kernel
theorem sd_m2 (i : Nat) : (2 : Int32) * nI i = nI (2 * i) := pk_mul 2 i
theorem sd_m21 (i : Nat) : (2 : Int32) * nI i + 1 = nI (2 * i + 1) := by rw [sd_m2]; exact nI_1 _
end
section
/-! DECODE ROWS BY BYTES: one lemma an opcode; a method's code is cut into short pieces once, and a row reads its own piece alone. -/
set_option maxRecDepth 100000
/-- the code has just these bytes from pc on -/
def DkAt (code : ByteArray) (pc : Nat) (bs : List UInt8) : Prop := ∀ (j : Nat) (b : UInt8), bs[j]? = some b → code.data.toList[pc + j]? = some b
/-- the piece W has the bytes bs from its place j on -/
def dkIn (W : List UInt8) (j : Nat) (bs : List UInt8) : Bool := decide ((W.drop j).take bs.length = bs)
theorem dk_seg {l W T : List UInt8} {o o2 : Nat} (h : l.drop o = W ++ T) (n : Nat) (hn : W.length = n) (ho : o + n = o2) : l.drop o2 = T := by
  subst ho
  rw [← List.drop_drop, h, List.drop_left' hn]
theorem dk_at {code : ByteArray} {W T bs : List UInt8} {o pc : Nat} (h : code.data.toList.drop o = W ++ T) (j : Nat) (hp : o + j = pc) (hw : dkIn W j bs = true) : DkAt code pc bs := by
  subst hp
  intro i b e
  have h1 := of_decide_eq_true hw
  have h2 : i < bs.length := (List.getElem?_eq_some_iff.mp e).1
  have h3 : W[j + i]? = some b := by
    rw [← h1, List.getElem?_take, if_pos h2, List.getElem?_drop] at e
    exact e
  have h4 : j + i < W.length := (List.getElem?_eq_some_iff.mp h3).1
  have h5 : (code.data.toList.drop o)[j + i]? = some b := by
    rw [h, List.getElem?_append_left h4]
    exact h3
  rw [List.getElem?_drop, ← Nat.add_assoc] at h5
  exact h5
theorem dk_u1 {A : ByteArray} {p : Nat} {b : UInt8} (h : A.data.toList[p]? = some b) : (Reader.u1 : Reader DecodeError Nat) A p = .ok (b.toNat, p + 1) := by
  obtain ⟨h1, h2⟩ := List.getElem?_eq_some_iff.mp h
  have h3 : p < A.size := by simpa using h1
  have h4 : A[p]'h3 = b := h2
  have e : (Reader.u1 : Reader DecodeError Nat) A p = (if h : p < A.size then .ok (A[p].toNat, p + 1) else .error (HasTruncated.truncated p)) := by
    show (do if h : p < A.size then do set (p + 1); Pure.pure A[p].toNat else MonadExcept.throw (HasTruncated.truncated p) : Reader DecodeError Nat) A p = _
    by_cases hi : p < A.size
    · rw [dif_pos hi, dif_pos hi]; rfl
    · rw [dif_neg hi, dif_neg hi]; rfl
  rw [e, dif_pos h3, h4]
theorem dk_bind {α β : Type} {r : Reader DecodeError α} {f : α → Reader DecodeError β} {A : ByteArray} {p s : Nat} {a : α} (h : r A p = .ok (a, s)) : (r >>= f) A p = f a A s := by
  show (do let (a, s) ← r A p; f a A s : Except DecodeError (β × Nat)) = _
  rw [h]
  rfl
theorem dk_map {α β : Type} {r : Reader DecodeError α} {g : α → β} {A : ByteArray} {p s : Nat} {a : α} (h : r A p = .ok (a, s)) : (g <$> r) A p = .ok (g a, s) := by
  show (do let (a, s) ← r A p; .ok (g a, s) : Except DecodeError (β × Nat)) = _
  rw [h]
  rfl
theorem dk_u2 {A : ByteArray} {p : Nat} {a b : UInt8} (h : A.data.toList[p]? = some a) (h2 : A.data.toList[p + 1]? = some b) : (Reader.u2 : Reader DecodeError Nat) A p = .ok (a.toNat * 256 + b.toNat, p + 2) := by
  show (Reader.u1 >>= fun hi => Reader.u1 >>= fun lo => Pure.pure (hi * 256 + lo) : Reader DecodeError Nat) A p = _
  rw [dk_bind (dk_u1 h), dk_bind (dk_u1 h2)]
  rfl
theorem dk_of {code : ByteArray} {pc n : Nat} {i : Instr} (h : Decoder.instr pc code pc = .ok (i, pc + n)) : decode code pc = .ok (i, n) := by
  have e : decode code pc = (match Decoder.instr pc code pc with | .error x => .error x | .ok (j, s) => .ok (j, s - pc)) := by
    show (do let (j, s) ← Decoder.instr pc code pc; Pure.pure (j, s - pc) : Except DecodeError (Instr × Nat)) = _
    cases Decoder.instr pc code pc <;> rfl
  rw [e, h]
  show Except.ok (i, pc + n - pc) = _
  rw [Nat.add_sub_cancel_left]
theorem dk_3 {code : ByteArray} {pc : Nat} (h : DkAt code pc [3]) : decode code pc = .ok (.iconst 0, 1) := dk_of ((dk_bind (dk_u1 (h 0 _ rfl))).trans rfl)
theorem dk_4 {code : ByteArray} {pc : Nat} (h : DkAt code pc [4]) : decode code pc = .ok (.iconst 1, 1) := dk_of ((dk_bind (dk_u1 (h 0 _ rfl))).trans rfl)
theorem dk_5 {code : ByteArray} {pc : Nat} (h : DkAt code pc [5]) : decode code pc = .ok (.iconst 2, 1) := dk_of ((dk_bind (dk_u1 (h 0 _ rfl))).trans rfl)
theorem dk_6 {code : ByteArray} {pc : Nat} (h : DkAt code pc [6]) : decode code pc = .ok (.iconst 3, 1) := dk_of ((dk_bind (dk_u1 (h 0 _ rfl))).trans rfl)
theorem dk_7 {code : ByteArray} {pc : Nat} (h : DkAt code pc [7]) : decode code pc = .ok (.iconst 4, 1) := dk_of ((dk_bind (dk_u1 (h 0 _ rfl))).trans rfl)
theorem dk_8 {code : ByteArray} {pc : Nat} (h : DkAt code pc [8]) : decode code pc = .ok (.iconst 5, 1) := dk_of ((dk_bind (dk_u1 (h 0 _ rfl))).trans rfl)
theorem dk_9 {code : ByteArray} {pc : Nat} (h : DkAt code pc [9]) : decode code pc = .ok (.lconst 0, 1) := dk_of ((dk_bind (dk_u1 (h 0 _ rfl))).trans rfl)
theorem dk_16 {code : ByteArray} {pc : Nat} (a : UInt8) (h : DkAt code pc [16, a]) : decode code pc = .ok (.bipush (Reader.signed 8 a.toNat), 2) := dk_of ((dk_bind (dk_u1 (h 0 _ rfl))).trans ((dk_bind (dk_map (dk_u1 (h 1 _ rfl)))).trans rfl))
theorem dk_17 {code : ByteArray} {pc : Nat} (a b : UInt8) (h : DkAt code pc [17, a, b]) : decode code pc = .ok (.sipush (Reader.signed 16 (a.toNat * 256 + b.toNat)), 3) := dk_of ((dk_bind (dk_u1 (h 0 _ rfl))).trans ((dk_bind (dk_map (dk_u2 (h 1 _ rfl) (h 2 _ rfl)))).trans rfl))
theorem dk_18 {code : ByteArray} {pc : Nat} (a : UInt8) (h : DkAt code pc [18, a]) : decode code pc = .ok (.ldc a.toNat, 2) := dk_of ((dk_bind (dk_u1 (h 0 _ rfl))).trans ((dk_bind (dk_u1 (h 1 _ rfl))).trans rfl))
theorem dk_20 {code : ByteArray} {pc : Nat} (a b : UInt8) (h : DkAt code pc [20, a, b]) : decode code pc = .ok (.ldc2_w (a.toNat * 256 + b.toNat), 3) := dk_of ((dk_bind (dk_u1 (h 0 _ rfl))).trans ((dk_bind (dk_u2 (h 1 _ rfl) (h 2 _ rfl))).trans rfl))
theorem dk_21 {code : ByteArray} {pc : Nat} (a : UInt8) (h : DkAt code pc [21, a]) : decode code pc = .ok (.iload a.toNat, 2) := dk_of ((dk_bind (dk_u1 (h 0 _ rfl))).trans ((dk_bind (dk_u1 (h 1 _ rfl))).trans rfl))
theorem dk_22 {code : ByteArray} {pc : Nat} (a : UInt8) (h : DkAt code pc [22, a]) : decode code pc = .ok (.lload a.toNat, 2) := dk_of ((dk_bind (dk_u1 (h 0 _ rfl))).trans ((dk_bind (dk_u1 (h 1 _ rfl))).trans rfl))
theorem dk_25 {code : ByteArray} {pc : Nat} (a : UInt8) (h : DkAt code pc [25, a]) : decode code pc = .ok (.aload a.toNat, 2) := dk_of ((dk_bind (dk_u1 (h 0 _ rfl))).trans ((dk_bind (dk_u1 (h 1 _ rfl))).trans rfl))
theorem dk_26 {code : ByteArray} {pc : Nat} (h : DkAt code pc [26]) : decode code pc = .ok (.iload_n 0, 1) := dk_of ((dk_bind (dk_u1 (h 0 _ rfl))).trans rfl)
theorem dk_27 {code : ByteArray} {pc : Nat} (h : DkAt code pc [27]) : decode code pc = .ok (.iload_n 1, 1) := dk_of ((dk_bind (dk_u1 (h 0 _ rfl))).trans rfl)
theorem dk_28 {code : ByteArray} {pc : Nat} (h : DkAt code pc [28]) : decode code pc = .ok (.iload_n 2, 1) := dk_of ((dk_bind (dk_u1 (h 0 _ rfl))).trans rfl)
theorem dk_29 {code : ByteArray} {pc : Nat} (h : DkAt code pc [29]) : decode code pc = .ok (.iload_n 3, 1) := dk_of ((dk_bind (dk_u1 (h 0 _ rfl))).trans rfl)
theorem dk_31 {code : ByteArray} {pc : Nat} (h : DkAt code pc [31]) : decode code pc = .ok (.lload_n 1, 1) := dk_of ((dk_bind (dk_u1 (h 0 _ rfl))).trans rfl)
theorem dk_33 {code : ByteArray} {pc : Nat} (h : DkAt code pc [33]) : decode code pc = .ok (.lload_n 3, 1) := dk_of ((dk_bind (dk_u1 (h 0 _ rfl))).trans rfl)
theorem dk_42 {code : ByteArray} {pc : Nat} (h : DkAt code pc [42]) : decode code pc = .ok (.aload_n 0, 1) := dk_of ((dk_bind (dk_u1 (h 0 _ rfl))).trans rfl)
theorem dk_43 {code : ByteArray} {pc : Nat} (h : DkAt code pc [43]) : decode code pc = .ok (.aload_n 1, 1) := dk_of ((dk_bind (dk_u1 (h 0 _ rfl))).trans rfl)
theorem dk_44 {code : ByteArray} {pc : Nat} (h : DkAt code pc [44]) : decode code pc = .ok (.aload_n 2, 1) := dk_of ((dk_bind (dk_u1 (h 0 _ rfl))).trans rfl)
theorem dk_45 {code : ByteArray} {pc : Nat} (h : DkAt code pc [45]) : decode code pc = .ok (.aload_n 3, 1) := dk_of ((dk_bind (dk_u1 (h 0 _ rfl))).trans rfl)
theorem dk_46 {code : ByteArray} {pc : Nat} (h : DkAt code pc [46]) : decode code pc = .ok (.iaload, 1) := dk_of ((dk_bind (dk_u1 (h 0 _ rfl))).trans rfl)
theorem dk_51 {code : ByteArray} {pc : Nat} (h : DkAt code pc [51]) : decode code pc = .ok (.baload, 1) := dk_of ((dk_bind (dk_u1 (h 0 _ rfl))).trans rfl)
theorem dk_54 {code : ByteArray} {pc : Nat} (a : UInt8) (h : DkAt code pc [54, a]) : decode code pc = .ok (.istore a.toNat, 2) := dk_of ((dk_bind (dk_u1 (h 0 _ rfl))).trans ((dk_bind (dk_u1 (h 1 _ rfl))).trans rfl))
theorem dk_55 {code : ByteArray} {pc : Nat} (a : UInt8) (h : DkAt code pc [55, a]) : decode code pc = .ok (.lstore a.toNat, 2) := dk_of ((dk_bind (dk_u1 (h 0 _ rfl))).trans ((dk_bind (dk_u1 (h 1 _ rfl))).trans rfl))
theorem dk_58 {code : ByteArray} {pc : Nat} (a : UInt8) (h : DkAt code pc [58, a]) : decode code pc = .ok (.astore a.toNat, 2) := dk_of ((dk_bind (dk_u1 (h 0 _ rfl))).trans ((dk_bind (dk_u1 (h 1 _ rfl))).trans rfl))
theorem dk_60 {code : ByteArray} {pc : Nat} (h : DkAt code pc [60]) : decode code pc = .ok (.istore_n 1, 1) := dk_of ((dk_bind (dk_u1 (h 0 _ rfl))).trans rfl)
theorem dk_61 {code : ByteArray} {pc : Nat} (h : DkAt code pc [61]) : decode code pc = .ok (.istore_n 2, 1) := dk_of ((dk_bind (dk_u1 (h 0 _ rfl))).trans rfl)
theorem dk_62 {code : ByteArray} {pc : Nat} (h : DkAt code pc [62]) : decode code pc = .ok (.istore_n 3, 1) := dk_of ((dk_bind (dk_u1 (h 0 _ rfl))).trans rfl)
theorem dk_66 {code : ByteArray} {pc : Nat} (h : DkAt code pc [66]) : decode code pc = .ok (.lstore_n 3, 1) := dk_of ((dk_bind (dk_u1 (h 0 _ rfl))).trans rfl)
theorem dk_76 {code : ByteArray} {pc : Nat} (h : DkAt code pc [76]) : decode code pc = .ok (.astore_n 1, 1) := dk_of ((dk_bind (dk_u1 (h 0 _ rfl))).trans rfl)
theorem dk_77 {code : ByteArray} {pc : Nat} (h : DkAt code pc [77]) : decode code pc = .ok (.astore_n 2, 1) := dk_of ((dk_bind (dk_u1 (h 0 _ rfl))).trans rfl)
theorem dk_78 {code : ByteArray} {pc : Nat} (h : DkAt code pc [78]) : decode code pc = .ok (.astore_n 3, 1) := dk_of ((dk_bind (dk_u1 (h 0 _ rfl))).trans rfl)
theorem dk_79 {code : ByteArray} {pc : Nat} (h : DkAt code pc [79]) : decode code pc = .ok (.iastore, 1) := dk_of ((dk_bind (dk_u1 (h 0 _ rfl))).trans rfl)
theorem dk_84 {code : ByteArray} {pc : Nat} (h : DkAt code pc [84]) : decode code pc = .ok (.bastore, 1) := dk_of ((dk_bind (dk_u1 (h 0 _ rfl))).trans rfl)
theorem dk_87 {code : ByteArray} {pc : Nat} (h : DkAt code pc [87]) : decode code pc = .ok (.pop, 1) := dk_of ((dk_bind (dk_u1 (h 0 _ rfl))).trans rfl)
theorem dk_89 {code : ByteArray} {pc : Nat} (h : DkAt code pc [89]) : decode code pc = .ok (.dup, 1) := dk_of ((dk_bind (dk_u1 (h 0 _ rfl))).trans rfl)
theorem dk_96 {code : ByteArray} {pc : Nat} (h : DkAt code pc [96]) : decode code pc = .ok (.iadd, 1) := dk_of ((dk_bind (dk_u1 (h 0 _ rfl))).trans rfl)
theorem dk_97 {code : ByteArray} {pc : Nat} (h : DkAt code pc [97]) : decode code pc = .ok (.ladd, 1) := dk_of ((dk_bind (dk_u1 (h 0 _ rfl))).trans rfl)
theorem dk_100 {code : ByteArray} {pc : Nat} (h : DkAt code pc [100]) : decode code pc = .ok (.isub, 1) := dk_of ((dk_bind (dk_u1 (h 0 _ rfl))).trans rfl)
theorem dk_104 {code : ByteArray} {pc : Nat} (h : DkAt code pc [104]) : decode code pc = .ok (.imul, 1) := dk_of ((dk_bind (dk_u1 (h 0 _ rfl))).trans rfl)
theorem dk_112 {code : ByteArray} {pc : Nat} (h : DkAt code pc [112]) : decode code pc = .ok (.irem, 1) := dk_of ((dk_bind (dk_u1 (h 0 _ rfl))).trans rfl)
theorem dk_120 {code : ByteArray} {pc : Nat} (h : DkAt code pc [120]) : decode code pc = .ok (.ishl, 1) := dk_of ((dk_bind (dk_u1 (h 0 _ rfl))).trans rfl)
theorem dk_121 {code : ByteArray} {pc : Nat} (h : DkAt code pc [121]) : decode code pc = .ok (.lshl, 1) := dk_of ((dk_bind (dk_u1 (h 0 _ rfl))).trans rfl)
theorem dk_122 {code : ByteArray} {pc : Nat} (h : DkAt code pc [122]) : decode code pc = .ok (.ishr, 1) := dk_of ((dk_bind (dk_u1 (h 0 _ rfl))).trans rfl)
theorem dk_123 {code : ByteArray} {pc : Nat} (h : DkAt code pc [123]) : decode code pc = .ok (.lshr, 1) := dk_of ((dk_bind (dk_u1 (h 0 _ rfl))).trans rfl)
theorem dk_124 {code : ByteArray} {pc : Nat} (h : DkAt code pc [124]) : decode code pc = .ok (.iushr, 1) := dk_of ((dk_bind (dk_u1 (h 0 _ rfl))).trans rfl)
theorem dk_125 {code : ByteArray} {pc : Nat} (h : DkAt code pc [125]) : decode code pc = .ok (.lushr, 1) := dk_of ((dk_bind (dk_u1 (h 0 _ rfl))).trans rfl)
theorem dk_126 {code : ByteArray} {pc : Nat} (h : DkAt code pc [126]) : decode code pc = .ok (.iand, 1) := dk_of ((dk_bind (dk_u1 (h 0 _ rfl))).trans rfl)
theorem dk_127 {code : ByteArray} {pc : Nat} (h : DkAt code pc [127]) : decode code pc = .ok (.land, 1) := dk_of ((dk_bind (dk_u1 (h 0 _ rfl))).trans rfl)
theorem dk_128 {code : ByteArray} {pc : Nat} (h : DkAt code pc [128]) : decode code pc = .ok (.ior, 1) := dk_of ((dk_bind (dk_u1 (h 0 _ rfl))).trans rfl)
theorem dk_129 {code : ByteArray} {pc : Nat} (h : DkAt code pc [129]) : decode code pc = .ok (.lor, 1) := dk_of ((dk_bind (dk_u1 (h 0 _ rfl))).trans rfl)
theorem dk_130 {code : ByteArray} {pc : Nat} (h : DkAt code pc [130]) : decode code pc = .ok (.ixor, 1) := dk_of ((dk_bind (dk_u1 (h 0 _ rfl))).trans rfl)
theorem dk_131 {code : ByteArray} {pc : Nat} (h : DkAt code pc [131]) : decode code pc = .ok (.lxor, 1) := dk_of ((dk_bind (dk_u1 (h 0 _ rfl))).trans rfl)
theorem dk_132 {code : ByteArray} {pc : Nat} (a b : UInt8) (h : DkAt code pc [132, a, b]) : decode code pc = .ok (.iinc a.toNat (Reader.signed 8 b.toNat), 3) := dk_of ((dk_bind (dk_u1 (h 0 _ rfl))).trans ((dk_bind (dk_u1 (h 1 _ rfl))).trans ((dk_bind (dk_map (dk_u1 (h 2 _ rfl)))).trans rfl)))
theorem dk_133 {code : ByteArray} {pc : Nat} (h : DkAt code pc [133]) : decode code pc = .ok (.i2l, 1) := dk_of ((dk_bind (dk_u1 (h 0 _ rfl))).trans rfl)
theorem dk_136 {code : ByteArray} {pc : Nat} (h : DkAt code pc [136]) : decode code pc = .ok (.l2i, 1) := dk_of ((dk_bind (dk_u1 (h 0 _ rfl))).trans rfl)
theorem dk_145 {code : ByteArray} {pc : Nat} (h : DkAt code pc [145]) : decode code pc = .ok (.i2b, 1) := dk_of ((dk_bind (dk_u1 (h 0 _ rfl))).trans rfl)
theorem dk_153 {code : ByteArray} {pc : Nat} (a b : UInt8) (h : DkAt code pc [153, a, b]) : decode code pc = .ok (.ifCond .eq (Reader.signed 16 (a.toNat * 256 + b.toNat)), 3) := dk_of ((dk_bind (dk_u1 (h 0 _ rfl))).trans ((dk_bind (dk_map (dk_u2 (h 1 _ rfl) (h 2 _ rfl)))).trans rfl))
theorem dk_154 {code : ByteArray} {pc : Nat} (a b : UInt8) (h : DkAt code pc [154, a, b]) : decode code pc = .ok (.ifCond .ne (Reader.signed 16 (a.toNat * 256 + b.toNat)), 3) := dk_of ((dk_bind (dk_u1 (h 0 _ rfl))).trans ((dk_bind (dk_map (dk_u2 (h 1 _ rfl) (h 2 _ rfl)))).trans rfl))
theorem dk_155 {code : ByteArray} {pc : Nat} (a b : UInt8) (h : DkAt code pc [155, a, b]) : decode code pc = .ok (.ifCond .lt (Reader.signed 16 (a.toNat * 256 + b.toNat)), 3) := dk_of ((dk_bind (dk_u1 (h 0 _ rfl))).trans ((dk_bind (dk_map (dk_u2 (h 1 _ rfl) (h 2 _ rfl)))).trans rfl))
theorem dk_159 {code : ByteArray} {pc : Nat} (a b : UInt8) (h : DkAt code pc [159, a, b]) : decode code pc = .ok (.if_icmp .eq (Reader.signed 16 (a.toNat * 256 + b.toNat)), 3) := dk_of ((dk_bind (dk_u1 (h 0 _ rfl))).trans ((dk_bind (dk_map (dk_u2 (h 1 _ rfl) (h 2 _ rfl)))).trans rfl))
theorem dk_162 {code : ByteArray} {pc : Nat} (a b : UInt8) (h : DkAt code pc [162, a, b]) : decode code pc = .ok (.if_icmp .ge (Reader.signed 16 (a.toNat * 256 + b.toNat)), 3) := dk_of ((dk_bind (dk_u1 (h 0 _ rfl))).trans ((dk_bind (dk_map (dk_u2 (h 1 _ rfl) (h 2 _ rfl)))).trans rfl))
theorem dk_163 {code : ByteArray} {pc : Nat} (a b : UInt8) (h : DkAt code pc [163, a, b]) : decode code pc = .ok (.if_icmp .gt (Reader.signed 16 (a.toNat * 256 + b.toNat)), 3) := dk_of ((dk_bind (dk_u1 (h 0 _ rfl))).trans ((dk_bind (dk_map (dk_u2 (h 1 _ rfl) (h 2 _ rfl)))).trans rfl))
theorem dk_164 {code : ByteArray} {pc : Nat} (a b : UInt8) (h : DkAt code pc [164, a, b]) : decode code pc = .ok (.if_icmp .le (Reader.signed 16 (a.toNat * 256 + b.toNat)), 3) := dk_of ((dk_bind (dk_u1 (h 0 _ rfl))).trans ((dk_bind (dk_map (dk_u2 (h 1 _ rfl) (h 2 _ rfl)))).trans rfl))
theorem dk_167 {code : ByteArray} {pc : Nat} (a b : UInt8) (h : DkAt code pc [167, a, b]) : decode code pc = .ok (.goto (Reader.signed 16 (a.toNat * 256 + b.toNat)), 3) := dk_of ((dk_bind (dk_u1 (h 0 _ rfl))).trans ((dk_bind (dk_map (dk_u2 (h 1 _ rfl) (h 2 _ rfl)))).trans rfl))
theorem dk_172 {code : ByteArray} {pc : Nat} (h : DkAt code pc [172]) : decode code pc = .ok (.ireturn, 1) := dk_of ((dk_bind (dk_u1 (h 0 _ rfl))).trans rfl)
theorem dk_173 {code : ByteArray} {pc : Nat} (h : DkAt code pc [173]) : decode code pc = .ok (.lreturn, 1) := dk_of ((dk_bind (dk_u1 (h 0 _ rfl))).trans rfl)
theorem dk_176 {code : ByteArray} {pc : Nat} (h : DkAt code pc [176]) : decode code pc = .ok (.areturn, 1) := dk_of ((dk_bind (dk_u1 (h 0 _ rfl))).trans rfl)
theorem dk_177 {code : ByteArray} {pc : Nat} (h : DkAt code pc [177]) : decode code pc = .ok (.return_, 1) := dk_of ((dk_bind (dk_u1 (h 0 _ rfl))).trans rfl)
theorem dk_178 {code : ByteArray} {pc : Nat} (a b : UInt8) (h : DkAt code pc [178, a, b]) : decode code pc = .ok (.getstatic (a.toNat * 256 + b.toNat), 3) := dk_of ((dk_bind (dk_u1 (h 0 _ rfl))).trans ((dk_bind (dk_u2 (h 1 _ rfl) (h 2 _ rfl))).trans rfl))
theorem dk_180 {code : ByteArray} {pc : Nat} (a b : UInt8) (h : DkAt code pc [180, a, b]) : decode code pc = .ok (.getfield (a.toNat * 256 + b.toNat), 3) := dk_of ((dk_bind (dk_u1 (h 0 _ rfl))).trans ((dk_bind (dk_u2 (h 1 _ rfl) (h 2 _ rfl))).trans rfl))
theorem dk_181 {code : ByteArray} {pc : Nat} (a b : UInt8) (h : DkAt code pc [181, a, b]) : decode code pc = .ok (.putfield (a.toNat * 256 + b.toNat), 3) := dk_of ((dk_bind (dk_u1 (h 0 _ rfl))).trans ((dk_bind (dk_u2 (h 1 _ rfl) (h 2 _ rfl))).trans rfl))
theorem dk_182 {code : ByteArray} {pc : Nat} (a b : UInt8) (h : DkAt code pc [182, a, b]) : decode code pc = .ok (.invokevirtual (a.toNat * 256 + b.toNat), 3) := dk_of ((dk_bind (dk_u1 (h 0 _ rfl))).trans ((dk_bind (dk_u2 (h 1 _ rfl) (h 2 _ rfl))).trans rfl))
theorem dk_183 {code : ByteArray} {pc : Nat} (a b : UInt8) (h : DkAt code pc [183, a, b]) : decode code pc = .ok (.invokespecial (a.toNat * 256 + b.toNat), 3) := dk_of ((dk_bind (dk_u1 (h 0 _ rfl))).trans ((dk_bind (dk_u2 (h 1 _ rfl) (h 2 _ rfl))).trans rfl))
theorem dk_184 {code : ByteArray} {pc : Nat} (a b : UInt8) (h : DkAt code pc [184, a, b]) : decode code pc = .ok (.invokestatic (a.toNat * 256 + b.toNat), 3) := dk_of ((dk_bind (dk_u1 (h 0 _ rfl))).trans ((dk_bind (dk_u2 (h 1 _ rfl) (h 2 _ rfl))).trans rfl))
theorem dk_187 {code : ByteArray} {pc : Nat} (a b : UInt8) (h : DkAt code pc [187, a, b]) : decode code pc = .ok (.new (a.toNat * 256 + b.toNat), 3) := dk_of ((dk_bind (dk_u1 (h 0 _ rfl))).trans ((dk_bind (dk_u2 (h 1 _ rfl) (h 2 _ rfl))).trans rfl))
theorem dk_188_8 {code : ByteArray} {pc : Nat} (h : DkAt code pc [188, 8]) : decode code pc = .ok (.newarray .byte, 2) := dk_of ((dk_bind (dk_u1 (h 0 _ rfl))).trans ((dk_bind (dk_u1 (h 1 _ rfl))).trans rfl))
theorem dk_188_10 {code : ByteArray} {pc : Nat} (h : DkAt code pc [188, 10]) : decode code pc = .ok (.newarray .int, 2) := dk_of ((dk_bind (dk_u1 (h 0 _ rfl))).trans ((dk_bind (dk_u1 (h 1 _ rfl))).trans rfl))
theorem dk_190 {code : ByteArray} {pc : Nat} (h : DkAt code pc [190]) : decode code pc = .ok (.arraylength, 1) := dk_of ((dk_bind (dk_u1 (h 0 _ rfl))).trans rfl)
theorem dk_191 {code : ByteArray} {pc : Nat} (h : DkAt code pc [191]) : decode code pc = .ok (.athrow, 1) := dk_of ((dk_bind (dk_u1 (h 0 _ rfl))).trans rfl)
theorem dk_192 {code : ByteArray} {pc : Nat} (a b : UInt8) (h : DkAt code pc [192, a, b]) : decode code pc = .ok (.checkcast (a.toNat * 256 + b.toNat), 3) := dk_of ((dk_bind (dk_u1 (h 0 _ rfl))).trans ((dk_bind (dk_u2 (h 1 _ rfl) (h 2 _ rfl))).trans rfl))
theorem dk_199 {code : ByteArray} {pc : Nat} (a b : UInt8) (h : DkAt code pc [199, a, b]) : decode code pc = .ok (.ifnonnull (Reader.signed 16 (a.toNat * 256 + b.toNat)), 3) := dk_of ((dk_bind (dk_u1 (h 0 _ rfl))).trans ((dk_bind (dk_map (dk_u2 (h 1 _ rfl) (h 2 _ rfl)))).trans rfl))

/-! SeedDesk -/
set_option maxRecDepth 100000
def RX0 : String := "SeedDesk"
def TX0 : u_T := fun k => match k with
  | 0 => ("SeedDesk", "key", "[B", true)
  | 1 => ("SeedDesk", "block", "[B", true)
  | _ => ("SeedDesk", "out", "[B", true)
def tyX0 : Nat → FieldType := fun k => match k with
  | 0 => .array .byte
  | 1 => .array .byte
  | _ => .array .byte
abbrev wsX00 : List Cond := u_ws RX0 TX0 3
theorem nmX0 : ∀ a, a < 3 → ∀ b, b < 3 → a ≠ b → (TX0 a).2.1 ≠ (TX0 b).2.1 := by decide +kernel
theorem tyX0_ok : ∀ k, k < 3 → parseFieldDescriptor (TX0 k).2.2.1 = some (tyX0 k) := by decide +kernel
abbrev cX0_init : ByteArray := prog_8_method_1_code
def yX0_init : MethodName := ⟨RX0, "<init>", "()V"⟩
def dkwX0_init_1 : List UInt8 := [188, 8, 181, 0, 16, 177]
abbrev dktX0_init_1 : List UInt8 := dkwX0_init_1 ++ []
def dkwX0_init_0 : List UInt8 := [42, 183, 0, 1, 42, 16, 32, 188, 8, 181, 0, 7, 42, 16, 16, 188, 8, 181, 0, 13, 42, 16, 16]
abbrev dktX0_init_0 : List UInt8 := dkwX0_init_0 ++ dktX0_init_1
theorem dksX0_init_0 : cX0_init.data.toList.drop 0 = dktX0_init_0 := by decide +kernel
theorem dksX0_init_1 : cX0_init.data.toList.drop 23 = dktX0_init_1 := dk_seg dksX0_init_0 23 rfl rfl
theorem dX0_init_0 : decode cX0_init 0 = .ok (.aload_n 0, 1) := dk_42 (dk_at dksX0_init_0 0 rfl rfl)
theorem dX0_init_1 : decode cX0_init 1 = .ok (.invokespecial 1, 3) := dk_183 0 1 (dk_at dksX0_init_0 1 rfl rfl)
theorem dX0_init_4 : decode cX0_init 4 = .ok (.aload_n 0, 1) := dk_42 (dk_at dksX0_init_0 4 rfl rfl)
theorem dX0_init_5 : decode cX0_init 5 = .ok (.bipush 32, 2) := dk_16 32 (dk_at dksX0_init_0 5 rfl rfl)
theorem dX0_init_7 : decode cX0_init 7 = .ok (.newarray .byte, 2) := dk_188_8 (dk_at dksX0_init_0 7 rfl rfl)
theorem dX0_init_9 : decode cX0_init 9 = .ok (.putfield 7, 3) := dk_181 0 7 (dk_at dksX0_init_0 9 rfl rfl)
theorem dX0_init_12 : decode cX0_init 12 = .ok (.aload_n 0, 1) := dk_42 (dk_at dksX0_init_0 12 rfl rfl)
theorem dX0_init_13 : decode cX0_init 13 = .ok (.bipush 16, 2) := dk_16 16 (dk_at dksX0_init_0 13 rfl rfl)
theorem dX0_init_15 : decode cX0_init 15 = .ok (.newarray .byte, 2) := dk_188_8 (dk_at dksX0_init_0 15 rfl rfl)
theorem dX0_init_17 : decode cX0_init 17 = .ok (.putfield 13, 3) := dk_181 0 13 (dk_at dksX0_init_0 17 rfl rfl)
theorem dX0_init_20 : decode cX0_init 20 = .ok (.aload_n 0, 1) := dk_42 (dk_at dksX0_init_0 20 rfl rfl)
theorem dX0_init_21 : decode cX0_init 21 = .ok (.bipush 16, 2) := dk_16 16 (dk_at dksX0_init_0 21 rfl rfl)
theorem dX0_init_23 : decode cX0_init 23 = .ok (.newarray .byte, 2) := dk_188_8 (dk_at dksX0_init_1 0 rfl rfl)
theorem dX0_init_25 : decode cX0_init 25 = .ok (.putfield 16, 3) := dk_181 0 16 (dk_at dksX0_init_1 2 rfl rfl)
theorem dX0_init_28 : decode cX0_init 28 = .ok (.return_, 1) := dk_177 (dk_at dksX0_init_1 5 rfl rfl)
abbrev cX0_key : ByteArray := prog_8_method_3_code
def yX0_key : MethodName := ⟨RX0, "key", "(IIIII)V"⟩
def dkwX0_key_2 : List UInt8 := [21, 6, 16, 12, 96, 21, 5, 184, 0, 19, 177]
abbrev dktX0_key_2 : List UInt8 := dkwX0_key_2 ++ []
def dkwX0_key_1 : List UInt8 := [96, 29, 184, 0, 19, 42, 180, 0, 7, 21, 6, 16, 8, 96, 21, 4, 184, 0, 19, 42, 180, 0, 7]
abbrev dktX0_key_1 : List UInt8 := dkwX0_key_1 ++ dktX0_key_2
def dkwX0_key_0 : List UInt8 := [27, 4, 126, 7, 120, 54, 6, 42, 180, 0, 7, 21, 6, 28, 184, 0, 19, 42, 180, 0, 7, 21, 6, 7]
abbrev dktX0_key_0 : List UInt8 := dkwX0_key_0 ++ dktX0_key_1
theorem dksX0_key_0 : cX0_key.data.toList.drop 0 = dktX0_key_0 := by decide +kernel
theorem dksX0_key_1 : cX0_key.data.toList.drop 24 = dktX0_key_1 := dk_seg dksX0_key_0 24 rfl rfl
theorem dksX0_key_2 : cX0_key.data.toList.drop 47 = dktX0_key_2 := dk_seg dksX0_key_1 23 rfl rfl
theorem dX0_key_0 : decode cX0_key 0 = .ok (.iload_n 1, 1) := dk_27 (dk_at dksX0_key_0 0 rfl rfl)
theorem dX0_key_1 : decode cX0_key 1 = .ok (.iconst 1, 1) := dk_4 (dk_at dksX0_key_0 1 rfl rfl)
theorem dX0_key_2 : decode cX0_key 2 = .ok (.iand, 1) := dk_126 (dk_at dksX0_key_0 2 rfl rfl)
theorem dX0_key_3 : decode cX0_key 3 = .ok (.iconst 4, 1) := dk_7 (dk_at dksX0_key_0 3 rfl rfl)
theorem dX0_key_4 : decode cX0_key 4 = .ok (.ishl, 1) := dk_120 (dk_at dksX0_key_0 4 rfl rfl)
theorem dX0_key_5 : decode cX0_key 5 = .ok (.istore 6, 2) := dk_54 6 (dk_at dksX0_key_0 5 rfl rfl)
theorem dX0_key_7 : decode cX0_key 7 = .ok (.aload_n 0, 1) := dk_42 (dk_at dksX0_key_0 7 rfl rfl)
theorem dX0_key_8 : decode cX0_key 8 = .ok (.getfield 7, 3) := dk_180 0 7 (dk_at dksX0_key_0 8 rfl rfl)
theorem dX0_key_11 : decode cX0_key 11 = .ok (.iload 6, 2) := dk_21 6 (dk_at dksX0_key_0 11 rfl rfl)
theorem dX0_key_13 : decode cX0_key 13 = .ok (.iload_n 2, 1) := dk_28 (dk_at dksX0_key_0 13 rfl rfl)
theorem dX0_key_14 : decode cX0_key 14 = .ok (.invokestatic 19, 3) := dk_184 0 19 (dk_at dksX0_key_0 14 rfl rfl)
theorem dX0_key_17 : decode cX0_key 17 = .ok (.aload_n 0, 1) := dk_42 (dk_at dksX0_key_0 17 rfl rfl)
theorem dX0_key_18 : decode cX0_key 18 = .ok (.getfield 7, 3) := dk_180 0 7 (dk_at dksX0_key_0 18 rfl rfl)
theorem dX0_key_21 : decode cX0_key 21 = .ok (.iload 6, 2) := dk_21 6 (dk_at dksX0_key_0 21 rfl rfl)
theorem dX0_key_23 : decode cX0_key 23 = .ok (.iconst 4, 1) := dk_7 (dk_at dksX0_key_0 23 rfl rfl)
theorem dX0_key_24 : decode cX0_key 24 = .ok (.iadd, 1) := dk_96 (dk_at dksX0_key_1 0 rfl rfl)
theorem dX0_key_25 : decode cX0_key 25 = .ok (.iload_n 3, 1) := dk_29 (dk_at dksX0_key_1 1 rfl rfl)
theorem dX0_key_26 : decode cX0_key 26 = .ok (.invokestatic 19, 3) := dk_184 0 19 (dk_at dksX0_key_1 2 rfl rfl)
theorem dX0_key_29 : decode cX0_key 29 = .ok (.aload_n 0, 1) := dk_42 (dk_at dksX0_key_1 5 rfl rfl)
theorem dX0_key_30 : decode cX0_key 30 = .ok (.getfield 7, 3) := dk_180 0 7 (dk_at dksX0_key_1 6 rfl rfl)
theorem dX0_key_33 : decode cX0_key 33 = .ok (.iload 6, 2) := dk_21 6 (dk_at dksX0_key_1 9 rfl rfl)
theorem dX0_key_35 : decode cX0_key 35 = .ok (.bipush 8, 2) := dk_16 8 (dk_at dksX0_key_1 11 rfl rfl)
theorem dX0_key_37 : decode cX0_key 37 = .ok (.iadd, 1) := dk_96 (dk_at dksX0_key_1 13 rfl rfl)
theorem dX0_key_38 : decode cX0_key 38 = .ok (.iload 4, 2) := dk_21 4 (dk_at dksX0_key_1 14 rfl rfl)
theorem dX0_key_40 : decode cX0_key 40 = .ok (.invokestatic 19, 3) := dk_184 0 19 (dk_at dksX0_key_1 16 rfl rfl)
theorem dX0_key_43 : decode cX0_key 43 = .ok (.aload_n 0, 1) := dk_42 (dk_at dksX0_key_1 19 rfl rfl)
theorem dX0_key_44 : decode cX0_key 44 = .ok (.getfield 7, 3) := dk_180 0 7 (dk_at dksX0_key_1 20 rfl rfl)
theorem dX0_key_47 : decode cX0_key 47 = .ok (.iload 6, 2) := dk_21 6 (dk_at dksX0_key_2 0 rfl rfl)
theorem dX0_key_49 : decode cX0_key 49 = .ok (.bipush 12, 2) := dk_16 12 (dk_at dksX0_key_2 2 rfl rfl)
theorem dX0_key_51 : decode cX0_key 51 = .ok (.iadd, 1) := dk_96 (dk_at dksX0_key_2 4 rfl rfl)
theorem dX0_key_52 : decode cX0_key 52 = .ok (.iload 5, 2) := dk_21 5 (dk_at dksX0_key_2 5 rfl rfl)
theorem dX0_key_54 : decode cX0_key 54 = .ok (.invokestatic 19, 3) := dk_184 0 19 (dk_at dksX0_key_2 7 rfl rfl)
theorem dX0_key_57 : decode cX0_key 57 = .ok (.return_, 1) := dk_177 (dk_at dksX0_key_2 10 rfl rfl)
abbrev cX0_word : ByteArray := prog_8_method_2_code
def yX0_word : MethodName := ⟨RX0, "word", "([BII)V"⟩
def dkwX0_word_1 : List UInt8 := [16, 8, 122, 145, 84, 42, 27, 6, 96, 28, 145, 84, 177]
abbrev dktX0_word_1 : List UInt8 := dkwX0_word_1 ++ []
def dkwX0_word_0 : List UInt8 := [42, 27, 28, 16, 24, 122, 145, 84, 42, 27, 4, 96, 28, 16, 16, 122, 145, 84, 42, 27, 5, 96, 28]
abbrev dktX0_word_0 : List UInt8 := dkwX0_word_0 ++ dktX0_word_1
theorem dksX0_word_0 : cX0_word.data.toList.drop 0 = dktX0_word_0 := by decide +kernel
theorem dksX0_word_1 : cX0_word.data.toList.drop 23 = dktX0_word_1 := dk_seg dksX0_word_0 23 rfl rfl
theorem dX0_word_0 : decode cX0_word 0 = .ok (.aload_n 0, 1) := dk_42 (dk_at dksX0_word_0 0 rfl rfl)
theorem dX0_word_1 : decode cX0_word 1 = .ok (.iload_n 1, 1) := dk_27 (dk_at dksX0_word_0 1 rfl rfl)
theorem dX0_word_2 : decode cX0_word 2 = .ok (.iload_n 2, 1) := dk_28 (dk_at dksX0_word_0 2 rfl rfl)
theorem dX0_word_3 : decode cX0_word 3 = .ok (.bipush 24, 2) := dk_16 24 (dk_at dksX0_word_0 3 rfl rfl)
theorem dX0_word_5 : decode cX0_word 5 = .ok (.ishr, 1) := dk_122 (dk_at dksX0_word_0 5 rfl rfl)
theorem dX0_word_6 : decode cX0_word 6 = .ok (.i2b, 1) := dk_145 (dk_at dksX0_word_0 6 rfl rfl)
theorem dX0_word_7 : decode cX0_word 7 = .ok (.bastore, 1) := dk_84 (dk_at dksX0_word_0 7 rfl rfl)
theorem dX0_word_8 : decode cX0_word 8 = .ok (.aload_n 0, 1) := dk_42 (dk_at dksX0_word_0 8 rfl rfl)
theorem dX0_word_9 : decode cX0_word 9 = .ok (.iload_n 1, 1) := dk_27 (dk_at dksX0_word_0 9 rfl rfl)
theorem dX0_word_10 : decode cX0_word 10 = .ok (.iconst 1, 1) := dk_4 (dk_at dksX0_word_0 10 rfl rfl)
theorem dX0_word_11 : decode cX0_word 11 = .ok (.iadd, 1) := dk_96 (dk_at dksX0_word_0 11 rfl rfl)
theorem dX0_word_12 : decode cX0_word 12 = .ok (.iload_n 2, 1) := dk_28 (dk_at dksX0_word_0 12 rfl rfl)
theorem dX0_word_13 : decode cX0_word 13 = .ok (.bipush 16, 2) := dk_16 16 (dk_at dksX0_word_0 13 rfl rfl)
theorem dX0_word_15 : decode cX0_word 15 = .ok (.ishr, 1) := dk_122 (dk_at dksX0_word_0 15 rfl rfl)
theorem dX0_word_16 : decode cX0_word 16 = .ok (.i2b, 1) := dk_145 (dk_at dksX0_word_0 16 rfl rfl)
theorem dX0_word_17 : decode cX0_word 17 = .ok (.bastore, 1) := dk_84 (dk_at dksX0_word_0 17 rfl rfl)
theorem dX0_word_18 : decode cX0_word 18 = .ok (.aload_n 0, 1) := dk_42 (dk_at dksX0_word_0 18 rfl rfl)
theorem dX0_word_19 : decode cX0_word 19 = .ok (.iload_n 1, 1) := dk_27 (dk_at dksX0_word_0 19 rfl rfl)
theorem dX0_word_20 : decode cX0_word 20 = .ok (.iconst 2, 1) := dk_5 (dk_at dksX0_word_0 20 rfl rfl)
theorem dX0_word_21 : decode cX0_word 21 = .ok (.iadd, 1) := dk_96 (dk_at dksX0_word_0 21 rfl rfl)
theorem dX0_word_22 : decode cX0_word 22 = .ok (.iload_n 2, 1) := dk_28 (dk_at dksX0_word_0 22 rfl rfl)
theorem dX0_word_23 : decode cX0_word 23 = .ok (.bipush 8, 2) := dk_16 8 (dk_at dksX0_word_1 0 rfl rfl)
theorem dX0_word_25 : decode cX0_word 25 = .ok (.ishr, 1) := dk_122 (dk_at dksX0_word_1 2 rfl rfl)
theorem dX0_word_26 : decode cX0_word 26 = .ok (.i2b, 1) := dk_145 (dk_at dksX0_word_1 3 rfl rfl)
theorem dX0_word_27 : decode cX0_word 27 = .ok (.bastore, 1) := dk_84 (dk_at dksX0_word_1 4 rfl rfl)
theorem dX0_word_28 : decode cX0_word 28 = .ok (.aload_n 0, 1) := dk_42 (dk_at dksX0_word_1 5 rfl rfl)
theorem dX0_word_29 : decode cX0_word 29 = .ok (.iload_n 1, 1) := dk_27 (dk_at dksX0_word_1 6 rfl rfl)
theorem dX0_word_30 : decode cX0_word 30 = .ok (.iconst 3, 1) := dk_6 (dk_at dksX0_word_1 7 rfl rfl)
theorem dX0_word_31 : decode cX0_word 31 = .ok (.iadd, 1) := dk_96 (dk_at dksX0_word_1 8 rfl rfl)
theorem dX0_word_32 : decode cX0_word 32 = .ok (.iload_n 2, 1) := dk_28 (dk_at dksX0_word_1 9 rfl rfl)
theorem dX0_word_33 : decode cX0_word 33 = .ok (.i2b, 1) := dk_145 (dk_at dksX0_word_1 10 rfl rfl)
theorem dX0_word_34 : decode cX0_word 34 = .ok (.bastore, 1) := dk_84 (dk_at dksX0_word_1 11 rfl rfl)
theorem dX0_word_35 : decode cX0_word 35 = .ok (.return_, 1) := dk_177 (dk_at dksX0_word_1 12 rfl rfl)
abbrev cX0_block : ByteArray := prog_8_method_4_code
def yX0_block : MethodName := ⟨RX0, "block", "(IIII)V"⟩
def dkwX0_block_1 : List UInt8 := [29, 184, 0, 19, 42, 180, 0, 13, 16, 12, 21, 4, 184, 0, 19, 177]
abbrev dktX0_block_1 : List UInt8 := dkwX0_block_1 ++ []
def dkwX0_block_0 : List UInt8 := [42, 180, 0, 13, 3, 27, 184, 0, 19, 42, 180, 0, 13, 7, 28, 184, 0, 19, 42, 180, 0, 13, 16, 8]
abbrev dktX0_block_0 : List UInt8 := dkwX0_block_0 ++ dktX0_block_1
theorem dksX0_block_0 : cX0_block.data.toList.drop 0 = dktX0_block_0 := by decide +kernel
theorem dksX0_block_1 : cX0_block.data.toList.drop 24 = dktX0_block_1 := dk_seg dksX0_block_0 24 rfl rfl
theorem dX0_block_0 : decode cX0_block 0 = .ok (.aload_n 0, 1) := dk_42 (dk_at dksX0_block_0 0 rfl rfl)
theorem dX0_block_1 : decode cX0_block 1 = .ok (.getfield 13, 3) := dk_180 0 13 (dk_at dksX0_block_0 1 rfl rfl)
theorem dX0_block_4 : decode cX0_block 4 = .ok (.iconst 0, 1) := dk_3 (dk_at dksX0_block_0 4 rfl rfl)
theorem dX0_block_5 : decode cX0_block 5 = .ok (.iload_n 1, 1) := dk_27 (dk_at dksX0_block_0 5 rfl rfl)
theorem dX0_block_6 : decode cX0_block 6 = .ok (.invokestatic 19, 3) := dk_184 0 19 (dk_at dksX0_block_0 6 rfl rfl)
theorem dX0_block_9 : decode cX0_block 9 = .ok (.aload_n 0, 1) := dk_42 (dk_at dksX0_block_0 9 rfl rfl)
theorem dX0_block_10 : decode cX0_block 10 = .ok (.getfield 13, 3) := dk_180 0 13 (dk_at dksX0_block_0 10 rfl rfl)
theorem dX0_block_13 : decode cX0_block 13 = .ok (.iconst 4, 1) := dk_7 (dk_at dksX0_block_0 13 rfl rfl)
theorem dX0_block_14 : decode cX0_block 14 = .ok (.iload_n 2, 1) := dk_28 (dk_at dksX0_block_0 14 rfl rfl)
theorem dX0_block_15 : decode cX0_block 15 = .ok (.invokestatic 19, 3) := dk_184 0 19 (dk_at dksX0_block_0 15 rfl rfl)
theorem dX0_block_18 : decode cX0_block 18 = .ok (.aload_n 0, 1) := dk_42 (dk_at dksX0_block_0 18 rfl rfl)
theorem dX0_block_19 : decode cX0_block 19 = .ok (.getfield 13, 3) := dk_180 0 13 (dk_at dksX0_block_0 19 rfl rfl)
theorem dX0_block_22 : decode cX0_block 22 = .ok (.bipush 8, 2) := dk_16 8 (dk_at dksX0_block_0 22 rfl rfl)
theorem dX0_block_24 : decode cX0_block 24 = .ok (.iload_n 3, 1) := dk_29 (dk_at dksX0_block_1 0 rfl rfl)
theorem dX0_block_25 : decode cX0_block 25 = .ok (.invokestatic 19, 3) := dk_184 0 19 (dk_at dksX0_block_1 1 rfl rfl)
theorem dX0_block_28 : decode cX0_block 28 = .ok (.aload_n 0, 1) := dk_42 (dk_at dksX0_block_1 4 rfl rfl)
theorem dX0_block_29 : decode cX0_block 29 = .ok (.getfield 13, 3) := dk_180 0 13 (dk_at dksX0_block_1 5 rfl rfl)
theorem dX0_block_32 : decode cX0_block 32 = .ok (.bipush 12, 2) := dk_16 12 (dk_at dksX0_block_1 8 rfl rfl)
theorem dX0_block_34 : decode cX0_block 34 = .ok (.iload 4, 2) := dk_21 4 (dk_at dksX0_block_1 10 rfl rfl)
theorem dX0_block_36 : decode cX0_block 36 = .ok (.invokestatic 19, 3) := dk_184 0 19 (dk_at dksX0_block_1 12 rfl rfl)
theorem dX0_block_39 : decode cX0_block 39 = .ok (.return_, 1) := dk_177 (dk_at dksX0_block_1 15 rfl rfl)
abbrev cX0_lock : ByteArray := prog_8_method_7_code
def yX0_lock : MethodName := ⟨RX0, "lock", "(I)V"⟩
def dkwX0_lock_0 : List UInt8 := [42, 4, 27, 182, 0, 45, 177]
abbrev dktX0_lock_0 : List UInt8 := dkwX0_lock_0 ++ []
theorem dksX0_lock_0 : cX0_lock.data.toList.drop 0 = dktX0_lock_0 := by decide +kernel
theorem dX0_lock_0 : decode cX0_lock 0 = .ok (.aload_n 0, 1) := dk_42 (dk_at dksX0_lock_0 0 rfl rfl)
theorem dX0_lock_1 : decode cX0_lock 1 = .ok (.iconst 1, 1) := dk_4 (dk_at dksX0_lock_0 1 rfl rfl)
theorem dX0_lock_2 : decode cX0_lock 2 = .ok (.iload_n 1, 1) := dk_27 (dk_at dksX0_lock_0 2 rfl rfl)
theorem dX0_lock_3 : decode cX0_lock 3 = .ok (.invokevirtual 45, 3) := dk_182 0 45 (dk_at dksX0_lock_0 3 rfl rfl)
theorem dX0_lock_6 : decode cX0_lock 6 = .ok (.return_, 1) := dk_177 (dk_at dksX0_lock_0 6 rfl rfl)
abbrev cX0_run : ByteArray := prog_8_method_5_code
def yX0_run : MethodName := ⟨RX0, "run", "(ZI)V"⟩
def dkwX0_run_3 : List UInt8 := [180, 0, 13, 3, 42, 180, 0, 16, 3, 185, 0, 41, 5, 0, 87, 177]
abbrev dktX0_run_3 : List UInt8 := dkwX0_run_3 ++ []
def dkwX0_run_2 : List UInt8 := [58, 5, 25, 5, 27, 187, 0, 30, 89, 25, 4, 183, 0, 32, 185, 0, 35, 3, 0, 25, 5, 42]
abbrev dktX0_run_2 : List UInt8 := dkwX0_run_2 ++ dktX0_run_3
def dkwX0_run_1 : List UInt8 := [21, 5, 42, 180, 0, 7, 21, 5, 51, 84, 132, 5, 1, 167, 255, 235, 187, 0, 27, 89, 183, 0, 29]
abbrev dktX0_run_1 : List UInt8 := dkwX0_run_1 ++ dktX0_run_2
def dkwX0_run_0 : List UInt8 := [28, 6, 126, 184, 0, 23, 62, 29, 188, 8, 58, 4, 3, 54, 5, 21, 5, 29, 162, 0, 21, 25, 4]
abbrev dktX0_run_0 : List UInt8 := dkwX0_run_0 ++ dktX0_run_1
theorem dksX0_run_0 : cX0_run.data.toList.drop 0 = dktX0_run_0 := by decide +kernel
theorem dksX0_run_1 : cX0_run.data.toList.drop 23 = dktX0_run_1 := dk_seg dksX0_run_0 23 rfl rfl
theorem dksX0_run_2 : cX0_run.data.toList.drop 46 = dktX0_run_2 := dk_seg dksX0_run_1 23 rfl rfl
theorem dksX0_run_3 : cX0_run.data.toList.drop 68 = dktX0_run_3 := dk_seg dksX0_run_2 22 rfl rfl
theorem dX0_run_0 : decode cX0_run 0 = .ok (.iload_n 2, 1) := dk_28 (dk_at dksX0_run_0 0 rfl rfl)
theorem dX0_run_1 : decode cX0_run 1 = .ok (.iconst 3, 1) := dk_6 (dk_at dksX0_run_0 1 rfl rfl)
theorem dX0_run_2 : decode cX0_run 2 = .ok (.iand, 1) := dk_126 (dk_at dksX0_run_0 2 rfl rfl)
theorem dX0_run_3 : decode cX0_run 3 = .ok (.invokestatic 23, 3) := dk_184 0 23 (dk_at dksX0_run_0 3 rfl rfl)
theorem dX0_run_6 : decode cX0_run 6 = .ok (.istore_n 3, 1) := dk_62 (dk_at dksX0_run_0 6 rfl rfl)
theorem dX0_run_7 : decode cX0_run 7 = .ok (.iload_n 3, 1) := dk_29 (dk_at dksX0_run_0 7 rfl rfl)
theorem dX0_run_8 : decode cX0_run 8 = .ok (.newarray .byte, 2) := dk_188_8 (dk_at dksX0_run_0 8 rfl rfl)
theorem dX0_run_10 : decode cX0_run 10 = .ok (.astore 4, 2) := dk_58 4 (dk_at dksX0_run_0 10 rfl rfl)
theorem dX0_run_12 : decode cX0_run 12 = .ok (.iconst 0, 1) := dk_3 (dk_at dksX0_run_0 12 rfl rfl)
theorem dX0_run_13 : decode cX0_run 13 = .ok (.istore 5, 2) := dk_54 5 (dk_at dksX0_run_0 13 rfl rfl)
theorem dX0_run_15 : decode cX0_run 15 = .ok (.iload 5, 2) := dk_21 5 (dk_at dksX0_run_0 15 rfl rfl)
theorem dX0_run_17 : decode cX0_run 17 = .ok (.iload_n 3, 1) := dk_29 (dk_at dksX0_run_0 17 rfl rfl)
theorem dX0_run_18 : decode cX0_run 18 = .ok (.if_icmp .ge 21, 3) := dk_162 0 21 (dk_at dksX0_run_0 18 rfl rfl)
theorem dX0_run_21 : decode cX0_run 21 = .ok (.aload 4, 2) := dk_25 4 (dk_at dksX0_run_0 21 rfl rfl)
theorem dX0_run_23 : decode cX0_run 23 = .ok (.iload 5, 2) := dk_21 5 (dk_at dksX0_run_1 0 rfl rfl)
theorem dX0_run_25 : decode cX0_run 25 = .ok (.aload_n 0, 1) := dk_42 (dk_at dksX0_run_1 2 rfl rfl)
theorem dX0_run_26 : decode cX0_run 26 = .ok (.getfield 7, 3) := dk_180 0 7 (dk_at dksX0_run_1 3 rfl rfl)
theorem dX0_run_29 : decode cX0_run 29 = .ok (.iload 5, 2) := dk_21 5 (dk_at dksX0_run_1 6 rfl rfl)
theorem dX0_run_31 : decode cX0_run 31 = .ok (.baload, 1) := dk_51 (dk_at dksX0_run_1 8 rfl rfl)
theorem dX0_run_32 : decode cX0_run 32 = .ok (.bastore, 1) := dk_84 (dk_at dksX0_run_1 9 rfl rfl)
theorem dX0_run_33 : decode cX0_run 33 = .ok (.iinc 5 1, 3) := dk_132 5 1 (dk_at dksX0_run_1 10 rfl rfl)
theorem dX0_run_36 : decode cX0_run 36 = .ok (.goto (-21), 3) := dk_167 255 235 (dk_at dksX0_run_1 13 rfl rfl)
theorem dX0_run_39 : decode cX0_run 39 = .ok (.new 27, 3) := dk_187 0 27 (dk_at dksX0_run_1 16 rfl rfl)
theorem dX0_run_42 : decode cX0_run 42 = .ok (.dup, 1) := dk_89 (dk_at dksX0_run_1 19 rfl rfl)
theorem dX0_run_43 : decode cX0_run 43 = .ok (.invokespecial 29, 3) := dk_183 0 29 (dk_at dksX0_run_1 20 rfl rfl)
theorem dX0_run_46 : decode cX0_run 46 = .ok (.astore 5, 2) := dk_58 5 (dk_at dksX0_run_2 0 rfl rfl)
theorem dX0_run_48 : decode cX0_run 48 = .ok (.aload 5, 2) := dk_25 5 (dk_at dksX0_run_2 2 rfl rfl)
theorem dX0_run_50 : decode cX0_run 50 = .ok (.iload_n 1, 1) := dk_27 (dk_at dksX0_run_2 4 rfl rfl)
theorem dX0_run_51 : decode cX0_run 51 = .ok (.new 30, 3) := dk_187 0 30 (dk_at dksX0_run_2 5 rfl rfl)
theorem dX0_run_54 : decode cX0_run 54 = .ok (.dup, 1) := dk_89 (dk_at dksX0_run_2 8 rfl rfl)
theorem dX0_run_55 : decode cX0_run 55 = .ok (.aload 4, 2) := dk_25 4 (dk_at dksX0_run_2 9 rfl rfl)
theorem dX0_run_57 : decode cX0_run 57 = .ok (.invokespecial 32, 3) := dk_183 0 32 (dk_at dksX0_run_2 11 rfl rfl)
theorem dX0_run_60 : decode cX0_run 60 = .ok (.invokeinterface 35 3, 5) := by decide +kernel
theorem dX0_run_65 : decode cX0_run 65 = .ok (.aload 5, 2) := dk_25 5 (dk_at dksX0_run_2 19 rfl rfl)
theorem dX0_run_67 : decode cX0_run 67 = .ok (.aload_n 0, 1) := dk_42 (dk_at dksX0_run_2 21 rfl rfl)
theorem dX0_run_68 : decode cX0_run 68 = .ok (.getfield 13, 3) := dk_180 0 13 (dk_at dksX0_run_3 0 rfl rfl)
theorem dX0_run_71 : decode cX0_run 71 = .ok (.iconst 0, 1) := dk_3 (dk_at dksX0_run_3 3 rfl rfl)
theorem dX0_run_72 : decode cX0_run 72 = .ok (.aload_n 0, 1) := dk_42 (dk_at dksX0_run_3 4 rfl rfl)
theorem dX0_run_73 : decode cX0_run 73 = .ok (.getfield 16, 3) := dk_180 0 16 (dk_at dksX0_run_3 5 rfl rfl)
theorem dX0_run_76 : decode cX0_run 76 = .ok (.iconst 0, 1) := dk_3 (dk_at dksX0_run_3 8 rfl rfl)
theorem dX0_run_77 : decode cX0_run 77 = .ok (.invokeinterface 41 5, 5) := by decide +kernel
theorem dX0_run_82 : decode cX0_run 82 = .ok (.pop, 1) := dk_87 (dk_at dksX0_run_3 14 rfl rfl)
theorem dX0_run_83 : decode cX0_run 83 = .ok (.return_, 1) := dk_177 (dk_at dksX0_run_3 15 rfl rfl)
abbrev cX0_size : ByteArray := prog_8_method_6_code
def yX0_size : MethodName := ⟨RX0, "size", "(I)I"⟩
theorem dX0_size_0 : decode cX0_size 0 = .ok (.bipush 16, 2) := by decide +kernel
theorem dX0_size_2 : decode cX0_size 2 = .ok (.ireturn, 1) := by decide +kernel
abbrev cX0_open : ByteArray := prog_8_method_8_code
def yX0_open : MethodName := ⟨RX0, "open", "(I)V"⟩
def dkwX0_open_0 : List UInt8 := [42, 3, 27, 182, 0, 45, 177]
abbrev dktX0_open_0 : List UInt8 := dkwX0_open_0 ++ []
theorem dksX0_open_0 : cX0_open.data.toList.drop 0 = dktX0_open_0 := by decide +kernel
theorem dX0_open_0 : decode cX0_open 0 = .ok (.aload_n 0, 1) := dk_42 (dk_at dksX0_open_0 0 rfl rfl)
theorem dX0_open_1 : decode cX0_open 1 = .ok (.iconst 0, 1) := dk_3 (dk_at dksX0_open_0 1 rfl rfl)
theorem dX0_open_2 : decode cX0_open 2 = .ok (.iload_n 1, 1) := dk_27 (dk_at dksX0_open_0 2 rfl rfl)
theorem dX0_open_3 : decode cX0_open 3 = .ok (.invokevirtual 45, 3) := dk_182 0 45 (dk_at dksX0_open_0 3 rfl rfl)
theorem dX0_open_6 : decode cX0_open 6 = .ok (.return_, 1) := dk_177 (dk_at dksX0_open_0 6 rfl rfl)
abbrev cX0_again : ByteArray := prog_8_method_9_code
def yX0_again : MethodName := ⟨RX0, "again", "()V"⟩
def dkwX0_again_1 : List UInt8 := [167, 255, 235, 177]
abbrev dktX0_again_1 : List UInt8 := dkwX0_again_1 ++ []
def dkwX0_again_0 : List UInt8 := [3, 60, 27, 16, 16, 162, 0, 21, 42, 180, 0, 13, 27, 42, 180, 0, 16, 27, 51, 84, 132, 1, 1]
abbrev dktX0_again_0 : List UInt8 := dkwX0_again_0 ++ dktX0_again_1
theorem dksX0_again_0 : cX0_again.data.toList.drop 0 = dktX0_again_0 := by decide +kernel
theorem dksX0_again_1 : cX0_again.data.toList.drop 23 = dktX0_again_1 := dk_seg dksX0_again_0 23 rfl rfl
theorem dX0_again_0 : decode cX0_again 0 = .ok (.iconst 0, 1) := dk_3 (dk_at dksX0_again_0 0 rfl rfl)
theorem dX0_again_1 : decode cX0_again 1 = .ok (.istore_n 1, 1) := dk_60 (dk_at dksX0_again_0 1 rfl rfl)
theorem dX0_again_2 : decode cX0_again 2 = .ok (.iload_n 1, 1) := dk_27 (dk_at dksX0_again_0 2 rfl rfl)
theorem dX0_again_3 : decode cX0_again 3 = .ok (.bipush 16, 2) := dk_16 16 (dk_at dksX0_again_0 3 rfl rfl)
theorem dX0_again_5 : decode cX0_again 5 = .ok (.if_icmp .ge 21, 3) := dk_162 0 21 (dk_at dksX0_again_0 5 rfl rfl)
theorem dX0_again_8 : decode cX0_again 8 = .ok (.aload_n 0, 1) := dk_42 (dk_at dksX0_again_0 8 rfl rfl)
theorem dX0_again_9 : decode cX0_again 9 = .ok (.getfield 13, 3) := dk_180 0 13 (dk_at dksX0_again_0 9 rfl rfl)
theorem dX0_again_12 : decode cX0_again 12 = .ok (.iload_n 1, 1) := dk_27 (dk_at dksX0_again_0 12 rfl rfl)
theorem dX0_again_13 : decode cX0_again 13 = .ok (.aload_n 0, 1) := dk_42 (dk_at dksX0_again_0 13 rfl rfl)
theorem dX0_again_14 : decode cX0_again 14 = .ok (.getfield 16, 3) := dk_180 0 16 (dk_at dksX0_again_0 14 rfl rfl)
theorem dX0_again_17 : decode cX0_again 17 = .ok (.iload_n 1, 1) := dk_27 (dk_at dksX0_again_0 17 rfl rfl)
theorem dX0_again_18 : decode cX0_again 18 = .ok (.baload, 1) := dk_51 (dk_at dksX0_again_0 18 rfl rfl)
theorem dX0_again_19 : decode cX0_again 19 = .ok (.bastore, 1) := dk_84 (dk_at dksX0_again_0 19 rfl rfl)
theorem dX0_again_20 : decode cX0_again 20 = .ok (.iinc 1 1, 3) := dk_132 1 1 (dk_at dksX0_again_0 20 rfl rfl)
theorem dX0_again_23 : decode cX0_again 23 = .ok (.goto (-21), 3) := dk_167 255 235 (dk_at dksX0_again_1 0 rfl rfl)
theorem dX0_again_26 : decode cX0_again 26 = .ok (.return_, 1) := dk_177 (dk_at dksX0_again_1 3 rfl rfl)
abbrev cX0_out : ByteArray := prog_8_method_10_code
def yX0_out : MethodName := ⟨RX0, "out", "(I)I"⟩
def dkwX0_out_0 : List UInt8 := [42, 180, 0, 16, 27, 16, 15, 126, 51, 17, 0, 255, 126, 172]
abbrev dktX0_out_0 : List UInt8 := dkwX0_out_0 ++ []
theorem dksX0_out_0 : cX0_out.data.toList.drop 0 = dktX0_out_0 := by decide +kernel
theorem dX0_out_0 : decode cX0_out 0 = .ok (.aload_n 0, 1) := dk_42 (dk_at dksX0_out_0 0 rfl rfl)
theorem dX0_out_1 : decode cX0_out 1 = .ok (.getfield 16, 3) := dk_180 0 16 (dk_at dksX0_out_0 1 rfl rfl)
theorem dX0_out_4 : decode cX0_out 4 = .ok (.iload_n 1, 1) := dk_27 (dk_at dksX0_out_0 4 rfl rfl)
theorem dX0_out_5 : decode cX0_out 5 = .ok (.bipush 15, 2) := dk_16 15 (dk_at dksX0_out_0 5 rfl rfl)
theorem dX0_out_7 : decode cX0_out 7 = .ok (.iand, 1) := dk_126 (dk_at dksX0_out_0 7 rfl rfl)
theorem dX0_out_8 : decode cX0_out 8 = .ok (.baload, 1) := dk_51 (dk_at dksX0_out_0 8 rfl rfl)
theorem dX0_out_9 : decode cX0_out 9 = .ok (.sipush 255, 3) := dk_17 0 255 (dk_at dksX0_out_0 9 rfl rfl)
theorem dX0_out_12 : decode cX0_out 12 = .ok (.iand, 1) := dk_126 (dk_at dksX0_out_0 12 rfl rfl)
theorem dX0_out_13 : decode cX0_out 13 = .ok (.ireturn, 1) := dk_172 (dk_at dksX0_out_0 13 rfl rfl)
theorem q16 : (Jvm.Cond.initialized "SeedDesk") ∈ lw_all := lw_g (lw_at lw_m1 1 rfl) rfl
theorem q30 : (Jvm.Cond.instantiable "SeedDesk" (3 : Nat)) ∈ lw_all := lw_g (lw_at lw_m1 15 rfl) rfl
theorem q32 : (Jvm.Cond.instanceMethod ({ cls := "SeedDesk", name := "<init>", desc := "()V" } : Jvm.MethodName)) ∈ lw_all := lw_g (lw_at lw_m1 17 rfl) rfl
theorem q33 : (Jvm.Cond.code ({ cls := "SeedDesk", name := "<init>", desc := "()V" } : Jvm.MethodName) prog_8_method_1_code (1 : Nat) (Option.none : Option Jvm.ClassFile.FieldType)) ∈ lw_all := lw_g (lw_at lw_m1 18 rfl) rfl
theorem q34 : (Jvm.Cond.methodLink "SeedDesk" (1 : Nat) ({ cls := "java/lang/Object", name := "<init>", desc := "()V" } : Jvm.MethodName)) ∈ lw_all := lw_g (lw_at lw_m1 19 rfl) rfl
theorem q37 : (Jvm.Cond.fieldLink "SeedDesk" (7 : Nat) "SeedDesk" "key" "[B") ∈ lw_all := lw_g (lw_at lw_m1 22 rfl) rfl
theorem q38 : (Jvm.Cond.fieldLink "SeedDesk" (13 : Nat) "SeedDesk" "block" "[B") ∈ lw_all := lw_g (lw_at lw_m1 23 rfl) rfl
theorem q39 : (Jvm.Cond.fieldLink "SeedDesk" (16 : Nat) "SeedDesk" "out" "[B") ∈ lw_all := lw_g (lw_at lw_m1 24 rfl) rfl
theorem q40 : (Jvm.Cond.laysFinal "SeedDesk" "SeedDesk" "key" "[B") ∈ lw_all := lw_g (lw_at lw_m1 25 rfl) rfl
theorem q41 : (Jvm.Cond.soleField "SeedDesk" "key") ∈ lw_all := lw_g (lw_at lw_m1 26 rfl) rfl
theorem q42 : (Jvm.Cond.laysFinal "SeedDesk" "SeedDesk" "block" "[B") ∈ lw_all := lw_g (lw_at lw_m1 27 rfl) rfl
theorem q43 : (Jvm.Cond.soleField "SeedDesk" "block") ∈ lw_all := lw_g (lw_at lw_m1 28 rfl) rfl
theorem q44 : (Jvm.Cond.laysFinal "SeedDesk" "SeedDesk" "out" "[B") ∈ lw_all := lw_g (lw_at lw_m1 29 rfl) rfl
theorem q45 : (Jvm.Cond.soleField "SeedDesk" "out") ∈ lw_all := lw_g (lw_at lw_m1 30 rfl) rfl
theorem q46 : (Jvm.Cond.superclass "SeedDesk" "java/lang/Object") ∈ lw_all := lw_g (lw_at lw_m1 31 rfl) rfl
theorem q49 : (Jvm.Cond.instanceMethod ({ cls := "SeedDesk", name := "key", desc := "(IIIII)V" } : Jvm.MethodName)) ∈ lw_all := lw_g (lw_at lw_m1 34 rfl) rfl
theorem q50 : (Jvm.Cond.selects "SeedDesk" ({ cls := "SeedDesk", name := "key", desc := "(IIIII)V" } : Jvm.MethodName) ({ cls := "SeedDesk", name := "key", desc := "(IIIII)V" } : Jvm.MethodName)) ∈ lw_all := lw_g (lw_at lw_m1 35 rfl) rfl
theorem q51 : (Jvm.Cond.code ({ cls := "SeedDesk", name := "key", desc := "(IIIII)V" } : Jvm.MethodName) prog_8_method_3_code (7 : Nat) (Option.none : Option Jvm.ClassFile.FieldType)) ∈ lw_all := lw_g (lw_at lw_m1 36 rfl) rfl
theorem q52 : (Jvm.Cond.methodLink "SeedDesk" (19 : Nat) ({ cls := "SeedDesk", name := "word", desc := "([BII)V" } : Jvm.MethodName)) ∈ lw_all := lw_g (lw_at lw_m1 37 rfl) rfl
theorem q53 : (Jvm.Cond.static ({ cls := "SeedDesk", name := "word", desc := "([BII)V" } : Jvm.MethodName)) ∈ lw_all := lw_g (lw_at lw_m1 38 rfl) rfl
theorem q54 : (Jvm.Cond.code ({ cls := "SeedDesk", name := "word", desc := "([BII)V" } : Jvm.MethodName) prog_8_method_2_code (3 : Nat) (Option.none : Option Jvm.ClassFile.FieldType)) ∈ lw_all := lw_g (lw_at lw_m1 39 rfl) rfl
theorem q56 : (Jvm.Cond.instanceMethod ({ cls := "SeedDesk", name := "block", desc := "(IIII)V" } : Jvm.MethodName)) ∈ lw_all := lw_g (lw_at lw_m1 41 rfl) rfl
theorem q57 : (Jvm.Cond.selects "SeedDesk" ({ cls := "SeedDesk", name := "block", desc := "(IIII)V" } : Jvm.MethodName) ({ cls := "SeedDesk", name := "block", desc := "(IIII)V" } : Jvm.MethodName)) ∈ lw_all := lw_g (lw_at lw_m1 42 rfl) rfl
theorem q58 : (Jvm.Cond.code ({ cls := "SeedDesk", name := "block", desc := "(IIII)V" } : Jvm.MethodName) prog_8_method_4_code (5 : Nat) (Option.none : Option Jvm.ClassFile.FieldType)) ∈ lw_all := lw_g (lw_at lw_m1 43 rfl) rfl
theorem q60 : (Jvm.Cond.instanceMethod ({ cls := "SeedDesk", name := "lock", desc := "(I)V" } : Jvm.MethodName)) ∈ lw_all := lw_g (lw_at lw_m1 45 rfl) rfl
theorem q61 : (Jvm.Cond.selects "SeedDesk" ({ cls := "SeedDesk", name := "lock", desc := "(I)V" } : Jvm.MethodName) ({ cls := "SeedDesk", name := "lock", desc := "(I)V" } : Jvm.MethodName)) ∈ lw_all := lw_g (lw_at lw_m1 46 rfl) rfl
theorem q62 : (Jvm.Cond.code ({ cls := "SeedDesk", name := "lock", desc := "(I)V" } : Jvm.MethodName) prog_8_method_7_code (2 : Nat) (Option.none : Option Jvm.ClassFile.FieldType)) ∈ lw_all := lw_g (lw_at lw_m1 47 rfl) rfl
theorem q63 : (Jvm.Cond.methodLink "SeedDesk" (45 : Nat) ({ cls := "SeedDesk", name := "run", desc := "(ZI)V" } : Jvm.MethodName)) ∈ lw_all := lw_g (lw_at lw_m1 48 rfl) rfl
theorem q64 : (Jvm.Cond.privateMethod ({ cls := "SeedDesk", name := "run", desc := "(ZI)V" } : Jvm.MethodName)) ∈ lw_tbl := lw_at lw_m1 49 rfl
theorem q65 : (Jvm.Cond.instanceMethod ({ cls := "SeedDesk", name := "run", desc := "(ZI)V" } : Jvm.MethodName)) ∈ lw_all := lw_g (lw_at lw_m1 50 rfl) rfl
theorem q66 : (Jvm.Cond.code ({ cls := "SeedDesk", name := "run", desc := "(ZI)V" } : Jvm.MethodName) prog_8_method_5_code (6 : Nat) (Option.none : Option Jvm.ClassFile.FieldType)) ∈ lw_all := lw_g (lw_at lw_m1 51 rfl) rfl
theorem q67 : (Jvm.Cond.methodLink "SeedDesk" (23 : Nat) ({ cls := "SeedDesk", name := "size", desc := "(I)I" } : Jvm.MethodName)) ∈ lw_all := lw_g (lw_at lw_m1 52 rfl) rfl
theorem q68 : (Jvm.Cond.static ({ cls := "SeedDesk", name := "size", desc := "(I)I" } : Jvm.MethodName)) ∈ lw_all := lw_g (lw_at lw_m1 53 rfl) rfl
theorem q69 : (Jvm.Cond.code ({ cls := "SeedDesk", name := "size", desc := "(I)I" } : Jvm.MethodName) prog_8_method_6_code (1 : Nat) (Option.some Jvm.ClassFile.FieldType.int)) ∈ lw_all := lw_g (lw_at lw_m1 54 rfl) rfl
theorem q70 : (Jvm.Cond.classLink "SeedDesk" (27 : Nat) "SEEDEngine") ∈ lw_all := lw_g (lw_at lw_m1 55 rfl) rfl
theorem q72 : (Jvm.Cond.methodLink "SeedDesk" (29 : Nat) ({ cls := "SEEDEngine", name := "<init>", desc := "()V" } : Jvm.MethodName)) ∈ lw_all := lw_g (lw_at lw_m1 57 rfl) rfl
theorem q86 : (Jvm.Cond.classLink "SeedDesk" (30 : Nat) "KeyParameter") ∈ lw_all := lw_g (lw_at lw_m1 71 rfl) rfl
theorem q88 : (Jvm.Cond.methodLink "SeedDesk" (32 : Nat) ({ cls := "KeyParameter", name := "<init>", desc := "([B)V" } : Jvm.MethodName)) ∈ lw_all := lw_g (lw_at lw_m1 73 rfl) rfl
theorem q105 : (Jvm.Cond.interfaceEntry "SeedDesk" (35 : Nat)) ∈ lw_tbl := lw_at lw_m1 90 rfl
theorem q106 : (Jvm.Cond.methodLink "SeedDesk" (35 : Nat) ({ cls := "BlockCipher", name := "init", desc := "(ZLCipherParameters;)V" } : Jvm.MethodName)) ∈ lw_all := lw_g (lw_at lw_m1 91 rfl) rfl
theorem q226 : (Jvm.Cond.interfaceEntry "SeedDesk" (41 : Nat)) ∈ lw_tbl := lw_at lw_m1 211 rfl
theorem q227 : (Jvm.Cond.methodLink "SeedDesk" (41 : Nat) ({ cls := "BlockCipher", name := "processBlock", desc := "([BI[BI)I" } : Jvm.MethodName)) ∈ lw_all := lw_g (lw_at lw_m1 212 rfl) rfl
theorem q307 : (Jvm.Cond.instanceMethod ({ cls := "SeedDesk", name := "open", desc := "(I)V" } : Jvm.MethodName)) ∈ lw_all := lw_g (lw_at lw_m2 52 rfl) rfl
theorem q308 : (Jvm.Cond.selects "SeedDesk" ({ cls := "SeedDesk", name := "open", desc := "(I)V" } : Jvm.MethodName) ({ cls := "SeedDesk", name := "open", desc := "(I)V" } : Jvm.MethodName)) ∈ lw_all := lw_g (lw_at lw_m2 53 rfl) rfl
theorem q309 : (Jvm.Cond.code ({ cls := "SeedDesk", name := "open", desc := "(I)V" } : Jvm.MethodName) prog_8_method_8_code (2 : Nat) (Option.none : Option Jvm.ClassFile.FieldType)) ∈ lw_all := lw_g (lw_at lw_m2 54 rfl) rfl
theorem q311 : (Jvm.Cond.instanceMethod ({ cls := "SeedDesk", name := "again", desc := "()V" } : Jvm.MethodName)) ∈ lw_all := lw_g (lw_at lw_m2 56 rfl) rfl
theorem q312 : (Jvm.Cond.selects "SeedDesk" ({ cls := "SeedDesk", name := "again", desc := "()V" } : Jvm.MethodName) ({ cls := "SeedDesk", name := "again", desc := "()V" } : Jvm.MethodName)) ∈ lw_all := lw_g (lw_at lw_m2 57 rfl) rfl
theorem q313 : (Jvm.Cond.code ({ cls := "SeedDesk", name := "again", desc := "()V" } : Jvm.MethodName) prog_8_method_9_code (2 : Nat) (Option.none : Option Jvm.ClassFile.FieldType)) ∈ lw_all := lw_g (lw_at lw_m2 58 rfl) rfl
theorem q315 : (Jvm.Cond.instanceMethod ({ cls := "SeedDesk", name := "out", desc := "(I)I" } : Jvm.MethodName)) ∈ lw_all := lw_g (lw_at lw_m2 60 rfl) rfl
theorem q316 : (Jvm.Cond.selects "SeedDesk" ({ cls := "SeedDesk", name := "out", desc := "(I)I" } : Jvm.MethodName) ({ cls := "SeedDesk", name := "out", desc := "(I)I" } : Jvm.MethodName)) ∈ lw_all := lw_g (lw_at lw_m2 61 rfl) rfl
theorem q317 : (Jvm.Cond.code ({ cls := "SeedDesk", name := "out", desc := "(I)I" } : Jvm.MethodName) prog_8_method_10_code (2 : Nat) (Option.some Jvm.ClassFile.FieldType.int)) ∈ lw_all := lw_g (lw_at lw_m2 62 rfl) rfl
theorem in_X0 : ∀ w ∈ wsX00, w ∈ lw_all := lw_in wsX00 [40, 42, 44] (by decide +kernel) (by decide +kernel)

/-! SeedDeskModel -/
set_option maxRecDepth 100000
def RX1 : String := "SeedDeskModel"
def TX1 : u_T := fun k => match k with
  | 0 => ("SeedDeskModel", "key", "[I", true)
  | 1 => ("SeedDeskModel", "block", "[I", true)
  | _ => ("SeedDeskModel", "out", "[I", true)
def tyX1 : Nat → FieldType := fun k => match k with
  | 0 => .array .int
  | 1 => .array .int
  | _ => .array .int
abbrev wsX10 : List Cond := u_ws RX1 TX1 3
theorem nmX1 : ∀ a, a < 3 → ∀ b, b < 3 → a ≠ b → (TX1 a).2.1 ≠ (TX1 b).2.1 := by decide +kernel
theorem tyX1_ok : ∀ k, k < 3 → parseFieldDescriptor (TX1 k).2.2.1 = some (tyX1 k) := by decide +kernel
abbrev cX1_init : ByteArray := prog_10_method_1_code
def yX1_init : MethodName := ⟨RX1, "<init>", "()V"⟩
def dkwX1_init_1 : List UInt8 := [188, 10, 181, 0, 16, 177]
abbrev dktX1_init_1 : List UInt8 := dkwX1_init_1 ++ []
def dkwX1_init_0 : List UInt8 := [42, 183, 0, 1, 42, 16, 32, 188, 10, 181, 0, 7, 42, 16, 16, 188, 10, 181, 0, 13, 42, 16, 16]
abbrev dktX1_init_0 : List UInt8 := dkwX1_init_0 ++ dktX1_init_1
theorem dksX1_init_0 : cX1_init.data.toList.drop 0 = dktX1_init_0 := by decide +kernel
theorem dksX1_init_1 : cX1_init.data.toList.drop 23 = dktX1_init_1 := dk_seg dksX1_init_0 23 rfl rfl
theorem dX1_init_0 : decode cX1_init 0 = .ok (.aload_n 0, 1) := dk_42 (dk_at dksX1_init_0 0 rfl rfl)
theorem dX1_init_1 : decode cX1_init 1 = .ok (.invokespecial 1, 3) := dk_183 0 1 (dk_at dksX1_init_0 1 rfl rfl)
theorem dX1_init_4 : decode cX1_init 4 = .ok (.aload_n 0, 1) := dk_42 (dk_at dksX1_init_0 4 rfl rfl)
theorem dX1_init_5 : decode cX1_init 5 = .ok (.bipush 32, 2) := dk_16 32 (dk_at dksX1_init_0 5 rfl rfl)
theorem dX1_init_7 : decode cX1_init 7 = .ok (.newarray .int, 2) := dk_188_10 (dk_at dksX1_init_0 7 rfl rfl)
theorem dX1_init_9 : decode cX1_init 9 = .ok (.putfield 7, 3) := dk_181 0 7 (dk_at dksX1_init_0 9 rfl rfl)
theorem dX1_init_12 : decode cX1_init 12 = .ok (.aload_n 0, 1) := dk_42 (dk_at dksX1_init_0 12 rfl rfl)
theorem dX1_init_13 : decode cX1_init 13 = .ok (.bipush 16, 2) := dk_16 16 (dk_at dksX1_init_0 13 rfl rfl)
theorem dX1_init_15 : decode cX1_init 15 = .ok (.newarray .int, 2) := dk_188_10 (dk_at dksX1_init_0 15 rfl rfl)
theorem dX1_init_17 : decode cX1_init 17 = .ok (.putfield 13, 3) := dk_181 0 13 (dk_at dksX1_init_0 17 rfl rfl)
theorem dX1_init_20 : decode cX1_init 20 = .ok (.aload_n 0, 1) := dk_42 (dk_at dksX1_init_0 20 rfl rfl)
theorem dX1_init_21 : decode cX1_init 21 = .ok (.bipush 16, 2) := dk_16 16 (dk_at dksX1_init_0 21 rfl rfl)
theorem dX1_init_23 : decode cX1_init 23 = .ok (.newarray .int, 2) := dk_188_10 (dk_at dksX1_init_1 0 rfl rfl)
theorem dX1_init_25 : decode cX1_init 25 = .ok (.putfield 16, 3) := dk_181 0 16 (dk_at dksX1_init_1 2 rfl rfl)
theorem dX1_init_28 : decode cX1_init 28 = .ok (.return_, 1) := dk_177 (dk_at dksX1_init_1 5 rfl rfl)
abbrev cX1_key : ByteArray := prog_10_method_3_code
def yX1_key : MethodName := ⟨RX1, "key", "(IIIII)V"⟩
def dkwX1_key_2 : List UInt8 := [21, 6, 16, 12, 96, 21, 5, 184, 0, 19, 177]
abbrev dktX1_key_2 : List UInt8 := dkwX1_key_2 ++ []
def dkwX1_key_1 : List UInt8 := [7, 96, 29, 184, 0, 19, 42, 180, 0, 7, 21, 6, 16, 8, 96, 21, 4, 184, 0, 19, 42, 180, 0, 7]
abbrev dktX1_key_1 : List UInt8 := dkwX1_key_1 ++ dktX1_key_2
def dkwX1_key_0 : List UInt8 := [27, 4, 126, 16, 16, 104, 54, 6, 42, 180, 0, 7, 21, 6, 28, 184, 0, 19, 42, 180, 0, 7, 21, 6]
abbrev dktX1_key_0 : List UInt8 := dkwX1_key_0 ++ dktX1_key_1
theorem dksX1_key_0 : cX1_key.data.toList.drop 0 = dktX1_key_0 := by decide +kernel
theorem dksX1_key_1 : cX1_key.data.toList.drop 24 = dktX1_key_1 := dk_seg dksX1_key_0 24 rfl rfl
theorem dksX1_key_2 : cX1_key.data.toList.drop 48 = dktX1_key_2 := dk_seg dksX1_key_1 24 rfl rfl
theorem dX1_key_0 : decode cX1_key 0 = .ok (.iload_n 1, 1) := dk_27 (dk_at dksX1_key_0 0 rfl rfl)
theorem dX1_key_1 : decode cX1_key 1 = .ok (.iconst 1, 1) := dk_4 (dk_at dksX1_key_0 1 rfl rfl)
theorem dX1_key_2 : decode cX1_key 2 = .ok (.iand, 1) := dk_126 (dk_at dksX1_key_0 2 rfl rfl)
theorem dX1_key_3 : decode cX1_key 3 = .ok (.bipush 16, 2) := dk_16 16 (dk_at dksX1_key_0 3 rfl rfl)
theorem dX1_key_5 : decode cX1_key 5 = .ok (.imul, 1) := dk_104 (dk_at dksX1_key_0 5 rfl rfl)
theorem dX1_key_6 : decode cX1_key 6 = .ok (.istore 6, 2) := dk_54 6 (dk_at dksX1_key_0 6 rfl rfl)
theorem dX1_key_8 : decode cX1_key 8 = .ok (.aload_n 0, 1) := dk_42 (dk_at dksX1_key_0 8 rfl rfl)
theorem dX1_key_9 : decode cX1_key 9 = .ok (.getfield 7, 3) := dk_180 0 7 (dk_at dksX1_key_0 9 rfl rfl)
theorem dX1_key_12 : decode cX1_key 12 = .ok (.iload 6, 2) := dk_21 6 (dk_at dksX1_key_0 12 rfl rfl)
theorem dX1_key_14 : decode cX1_key 14 = .ok (.iload_n 2, 1) := dk_28 (dk_at dksX1_key_0 14 rfl rfl)
theorem dX1_key_15 : decode cX1_key 15 = .ok (.invokestatic 19, 3) := dk_184 0 19 (dk_at dksX1_key_0 15 rfl rfl)
theorem dX1_key_18 : decode cX1_key 18 = .ok (.aload_n 0, 1) := dk_42 (dk_at dksX1_key_0 18 rfl rfl)
theorem dX1_key_19 : decode cX1_key 19 = .ok (.getfield 7, 3) := dk_180 0 7 (dk_at dksX1_key_0 19 rfl rfl)
theorem dX1_key_22 : decode cX1_key 22 = .ok (.iload 6, 2) := dk_21 6 (dk_at dksX1_key_0 22 rfl rfl)
theorem dX1_key_24 : decode cX1_key 24 = .ok (.iconst 4, 1) := dk_7 (dk_at dksX1_key_1 0 rfl rfl)
theorem dX1_key_25 : decode cX1_key 25 = .ok (.iadd, 1) := dk_96 (dk_at dksX1_key_1 1 rfl rfl)
theorem dX1_key_26 : decode cX1_key 26 = .ok (.iload_n 3, 1) := dk_29 (dk_at dksX1_key_1 2 rfl rfl)
theorem dX1_key_27 : decode cX1_key 27 = .ok (.invokestatic 19, 3) := dk_184 0 19 (dk_at dksX1_key_1 3 rfl rfl)
theorem dX1_key_30 : decode cX1_key 30 = .ok (.aload_n 0, 1) := dk_42 (dk_at dksX1_key_1 6 rfl rfl)
theorem dX1_key_31 : decode cX1_key 31 = .ok (.getfield 7, 3) := dk_180 0 7 (dk_at dksX1_key_1 7 rfl rfl)
theorem dX1_key_34 : decode cX1_key 34 = .ok (.iload 6, 2) := dk_21 6 (dk_at dksX1_key_1 10 rfl rfl)
theorem dX1_key_36 : decode cX1_key 36 = .ok (.bipush 8, 2) := dk_16 8 (dk_at dksX1_key_1 12 rfl rfl)
theorem dX1_key_38 : decode cX1_key 38 = .ok (.iadd, 1) := dk_96 (dk_at dksX1_key_1 14 rfl rfl)
theorem dX1_key_39 : decode cX1_key 39 = .ok (.iload 4, 2) := dk_21 4 (dk_at dksX1_key_1 15 rfl rfl)
theorem dX1_key_41 : decode cX1_key 41 = .ok (.invokestatic 19, 3) := dk_184 0 19 (dk_at dksX1_key_1 17 rfl rfl)
theorem dX1_key_44 : decode cX1_key 44 = .ok (.aload_n 0, 1) := dk_42 (dk_at dksX1_key_1 20 rfl rfl)
theorem dX1_key_45 : decode cX1_key 45 = .ok (.getfield 7, 3) := dk_180 0 7 (dk_at dksX1_key_1 21 rfl rfl)
theorem dX1_key_48 : decode cX1_key 48 = .ok (.iload 6, 2) := dk_21 6 (dk_at dksX1_key_2 0 rfl rfl)
theorem dX1_key_50 : decode cX1_key 50 = .ok (.bipush 12, 2) := dk_16 12 (dk_at dksX1_key_2 2 rfl rfl)
theorem dX1_key_52 : decode cX1_key 52 = .ok (.iadd, 1) := dk_96 (dk_at dksX1_key_2 4 rfl rfl)
theorem dX1_key_53 : decode cX1_key 53 = .ok (.iload 5, 2) := dk_21 5 (dk_at dksX1_key_2 5 rfl rfl)
theorem dX1_key_55 : decode cX1_key 55 = .ok (.invokestatic 19, 3) := dk_184 0 19 (dk_at dksX1_key_2 7 rfl rfl)
theorem dX1_key_58 : decode cX1_key 58 = .ok (.return_, 1) := dk_177 (dk_at dksX1_key_2 10 rfl rfl)
abbrev cX1_word : ByteArray := prog_10_method_2_code
def yX1_word : MethodName := ⟨RX1, "word", "([III)V"⟩
def dkwX1_word_1 : List UInt8 := [79, 132, 3, 1, 167, 255, 230, 177]
abbrev dktX1_word_1 : List UInt8 := dkwX1_word_1 ++ []
def dkwX1_word_0 : List UInt8 := [3, 62, 29, 7, 162, 0, 27, 42, 27, 29, 96, 28, 16, 24, 16, 8, 29, 104, 100, 124, 17, 0, 255, 126]
abbrev dktX1_word_0 : List UInt8 := dkwX1_word_0 ++ dktX1_word_1
theorem dksX1_word_0 : cX1_word.data.toList.drop 0 = dktX1_word_0 := by decide +kernel
theorem dksX1_word_1 : cX1_word.data.toList.drop 24 = dktX1_word_1 := dk_seg dksX1_word_0 24 rfl rfl
theorem dX1_word_0 : decode cX1_word 0 = .ok (.iconst 0, 1) := dk_3 (dk_at dksX1_word_0 0 rfl rfl)
theorem dX1_word_1 : decode cX1_word 1 = .ok (.istore_n 3, 1) := dk_62 (dk_at dksX1_word_0 1 rfl rfl)
theorem dX1_word_2 : decode cX1_word 2 = .ok (.iload_n 3, 1) := dk_29 (dk_at dksX1_word_0 2 rfl rfl)
theorem dX1_word_3 : decode cX1_word 3 = .ok (.iconst 4, 1) := dk_7 (dk_at dksX1_word_0 3 rfl rfl)
theorem dX1_word_4 : decode cX1_word 4 = .ok (.if_icmp .ge 27, 3) := dk_162 0 27 (dk_at dksX1_word_0 4 rfl rfl)
theorem dX1_word_7 : decode cX1_word 7 = .ok (.aload_n 0, 1) := dk_42 (dk_at dksX1_word_0 7 rfl rfl)
theorem dX1_word_8 : decode cX1_word 8 = .ok (.iload_n 1, 1) := dk_27 (dk_at dksX1_word_0 8 rfl rfl)
theorem dX1_word_9 : decode cX1_word 9 = .ok (.iload_n 3, 1) := dk_29 (dk_at dksX1_word_0 9 rfl rfl)
theorem dX1_word_10 : decode cX1_word 10 = .ok (.iadd, 1) := dk_96 (dk_at dksX1_word_0 10 rfl rfl)
theorem dX1_word_11 : decode cX1_word 11 = .ok (.iload_n 2, 1) := dk_28 (dk_at dksX1_word_0 11 rfl rfl)
theorem dX1_word_12 : decode cX1_word 12 = .ok (.bipush 24, 2) := dk_16 24 (dk_at dksX1_word_0 12 rfl rfl)
theorem dX1_word_14 : decode cX1_word 14 = .ok (.bipush 8, 2) := dk_16 8 (dk_at dksX1_word_0 14 rfl rfl)
theorem dX1_word_16 : decode cX1_word 16 = .ok (.iload_n 3, 1) := dk_29 (dk_at dksX1_word_0 16 rfl rfl)
theorem dX1_word_17 : decode cX1_word 17 = .ok (.imul, 1) := dk_104 (dk_at dksX1_word_0 17 rfl rfl)
theorem dX1_word_18 : decode cX1_word 18 = .ok (.isub, 1) := dk_100 (dk_at dksX1_word_0 18 rfl rfl)
theorem dX1_word_19 : decode cX1_word 19 = .ok (.iushr, 1) := dk_124 (dk_at dksX1_word_0 19 rfl rfl)
theorem dX1_word_20 : decode cX1_word 20 = .ok (.sipush 255, 3) := dk_17 0 255 (dk_at dksX1_word_0 20 rfl rfl)
theorem dX1_word_23 : decode cX1_word 23 = .ok (.iand, 1) := dk_126 (dk_at dksX1_word_0 23 rfl rfl)
theorem dX1_word_24 : decode cX1_word 24 = .ok (.iastore, 1) := dk_79 (dk_at dksX1_word_1 0 rfl rfl)
theorem dX1_word_25 : decode cX1_word 25 = .ok (.iinc 3 1, 3) := dk_132 3 1 (dk_at dksX1_word_1 1 rfl rfl)
theorem dX1_word_28 : decode cX1_word 28 = .ok (.goto (-26), 3) := dk_167 255 230 (dk_at dksX1_word_1 4 rfl rfl)
theorem dX1_word_31 : decode cX1_word 31 = .ok (.return_, 1) := dk_177 (dk_at dksX1_word_1 7 rfl rfl)
abbrev cX1_block : ByteArray := prog_10_method_4_code
def yX1_block : MethodName := ⟨RX1, "block", "(IIII)V"⟩
def dkwX1_block_1 : List UInt8 := [29, 184, 0, 19, 42, 180, 0, 13, 16, 12, 21, 4, 184, 0, 19, 177]
abbrev dktX1_block_1 : List UInt8 := dkwX1_block_1 ++ []
def dkwX1_block_0 : List UInt8 := [42, 180, 0, 13, 3, 27, 184, 0, 19, 42, 180, 0, 13, 7, 28, 184, 0, 19, 42, 180, 0, 13, 16, 8]
abbrev dktX1_block_0 : List UInt8 := dkwX1_block_0 ++ dktX1_block_1
theorem dksX1_block_0 : cX1_block.data.toList.drop 0 = dktX1_block_0 := by decide +kernel
theorem dksX1_block_1 : cX1_block.data.toList.drop 24 = dktX1_block_1 := dk_seg dksX1_block_0 24 rfl rfl
theorem dX1_block_0 : decode cX1_block 0 = .ok (.aload_n 0, 1) := dk_42 (dk_at dksX1_block_0 0 rfl rfl)
theorem dX1_block_1 : decode cX1_block 1 = .ok (.getfield 13, 3) := dk_180 0 13 (dk_at dksX1_block_0 1 rfl rfl)
theorem dX1_block_4 : decode cX1_block 4 = .ok (.iconst 0, 1) := dk_3 (dk_at dksX1_block_0 4 rfl rfl)
theorem dX1_block_5 : decode cX1_block 5 = .ok (.iload_n 1, 1) := dk_27 (dk_at dksX1_block_0 5 rfl rfl)
theorem dX1_block_6 : decode cX1_block 6 = .ok (.invokestatic 19, 3) := dk_184 0 19 (dk_at dksX1_block_0 6 rfl rfl)
theorem dX1_block_9 : decode cX1_block 9 = .ok (.aload_n 0, 1) := dk_42 (dk_at dksX1_block_0 9 rfl rfl)
theorem dX1_block_10 : decode cX1_block 10 = .ok (.getfield 13, 3) := dk_180 0 13 (dk_at dksX1_block_0 10 rfl rfl)
theorem dX1_block_13 : decode cX1_block 13 = .ok (.iconst 4, 1) := dk_7 (dk_at dksX1_block_0 13 rfl rfl)
theorem dX1_block_14 : decode cX1_block 14 = .ok (.iload_n 2, 1) := dk_28 (dk_at dksX1_block_0 14 rfl rfl)
theorem dX1_block_15 : decode cX1_block 15 = .ok (.invokestatic 19, 3) := dk_184 0 19 (dk_at dksX1_block_0 15 rfl rfl)
theorem dX1_block_18 : decode cX1_block 18 = .ok (.aload_n 0, 1) := dk_42 (dk_at dksX1_block_0 18 rfl rfl)
theorem dX1_block_19 : decode cX1_block 19 = .ok (.getfield 13, 3) := dk_180 0 13 (dk_at dksX1_block_0 19 rfl rfl)
theorem dX1_block_22 : decode cX1_block 22 = .ok (.bipush 8, 2) := dk_16 8 (dk_at dksX1_block_0 22 rfl rfl)
theorem dX1_block_24 : decode cX1_block 24 = .ok (.iload_n 3, 1) := dk_29 (dk_at dksX1_block_1 0 rfl rfl)
theorem dX1_block_25 : decode cX1_block 25 = .ok (.invokestatic 19, 3) := dk_184 0 19 (dk_at dksX1_block_1 1 rfl rfl)
theorem dX1_block_28 : decode cX1_block 28 = .ok (.aload_n 0, 1) := dk_42 (dk_at dksX1_block_1 4 rfl rfl)
theorem dX1_block_29 : decode cX1_block 29 = .ok (.getfield 13, 3) := dk_180 0 13 (dk_at dksX1_block_1 5 rfl rfl)
theorem dX1_block_32 : decode cX1_block 32 = .ok (.bipush 12, 2) := dk_16 12 (dk_at dksX1_block_1 8 rfl rfl)
theorem dX1_block_34 : decode cX1_block 34 = .ok (.iload 4, 2) := dk_21 4 (dk_at dksX1_block_1 10 rfl rfl)
theorem dX1_block_36 : decode cX1_block 36 = .ok (.invokestatic 19, 3) := dk_184 0 19 (dk_at dksX1_block_1 12 rfl rfl)
theorem dX1_block_39 : decode cX1_block 39 = .ok (.return_, 1) := dk_177 (dk_at dksX1_block_1 15 rfl rfl)
abbrev cX1_lock : ByteArray := prog_10_method_9_code
def yX1_lock : MethodName := ⟨RX1, "lock", "(I)V"⟩
def dkwX1_lock_0 : List UInt8 := [42, 4, 182, 0, 45, 177]
abbrev dktX1_lock_0 : List UInt8 := dkwX1_lock_0 ++ []
theorem dksX1_lock_0 : cX1_lock.data.toList.drop 0 = dktX1_lock_0 := by decide +kernel
theorem dX1_lock_0 : decode cX1_lock 0 = .ok (.aload_n 0, 1) := dk_42 (dk_at dksX1_lock_0 0 rfl rfl)
theorem dX1_lock_1 : decode cX1_lock 1 = .ok (.iconst 1, 1) := dk_4 (dk_at dksX1_lock_0 1 rfl rfl)
theorem dX1_lock_2 : decode cX1_lock 2 = .ok (.invokevirtual 45, 3) := dk_182 0 45 (dk_at dksX1_lock_0 2 rfl rfl)
theorem dX1_lock_5 : decode cX1_lock 5 = .ok (.return_, 1) := dk_177 (dk_at dksX1_lock_0 5 rfl rfl)
abbrev cX1_run : ByteArray := prog_10_method_8_code
def yX1_run : MethodName := ⟨RX1, "run", "(Z)V"⟩
def dkwX1_run_9 : List UInt8 := [180, 0, 16, 16, 8, 45, 3, 46, 184, 0, 19, 42, 180, 0, 16, 16, 12, 45, 4, 46, 184, 0, 19, 177]
abbrev dktX1_run_9 : List UInt8 := dkwX1_run_9 ++ []
def dkwX1_run_8 : List UInt8 := [180, 0, 16, 3, 25, 4, 3, 46, 184, 0, 19, 42, 180, 0, 16, 7, 25, 4, 4, 46, 184, 0, 19, 42]
abbrev dktX1_run_8 : List UInt8 := dkwX1_run_8 ++ dktX1_run_9
def dkwX1_run_7 : List UInt8 := [4, 46, 21, 8, 130, 79, 58, 9, 25, 4, 78, 25, 9, 58, 4, 132, 5, 1, 167, 255, 135, 42]
abbrev dktX1_run_7 : List UInt8 := dkwX1_run_7 ++ dktX1_run_8
def dkwX1_run_6 : List UInt8 := [54, 8, 21, 7, 21, 8, 96, 54, 7, 5, 188, 10, 89, 3, 45, 3, 46, 21, 7, 130, 79, 89, 4, 45]
abbrev dktX1_run_6 : List UInt8 := dkwX1_run_6 ++ dktX1_run_7
def dkwX1_run_5 : List UInt8 := [130, 184, 0, 37, 54, 8, 21, 7, 21, 8, 96, 184, 0, 37, 54, 7, 21, 8, 21, 7, 96, 184, 0, 37]
abbrev dktX1_run_5 : List UInt8 := dkwX1_run_5 ++ dktX1_run_6
def dkwX1_run_4 : List UInt8 := [104, 46, 130, 54, 7, 25, 4, 4, 46, 44, 5, 21, 6, 104, 4, 96, 46, 130, 54, 8, 21, 7, 21, 8]
abbrev dktX1_run_4 : List UInt8 := dkwX1_run_4 ++ dktX1_run_5
def dkwX1_run_3 : List UInt8 := [27, 153, 0, 8, 21, 5, 167, 0, 8, 16, 15, 21, 5, 100, 54, 6, 25, 4, 3, 46, 44, 5, 21, 6]
abbrev dktX1_run_3 : List UInt8 := dkwX1_run_3 ++ dktX1_run_4
def dkwX1_run_2 : List UInt8 := [89, 4, 42, 180, 0, 13, 16, 12, 184, 0, 32, 79, 58, 4, 3, 54, 5, 21, 5, 16, 16, 162, 0, 120]
abbrev dktX1_run_2 : List UInt8 := dkwX1_run_2 ++ dktX1_run_3
def dkwX1_run_1 : List UInt8 := [180, 0, 13, 7, 184, 0, 32, 79, 78, 5, 188, 10, 89, 3, 42, 180, 0, 13, 16, 8, 184, 0, 32, 79]
abbrev dktX1_run_1 : List UInt8 := dkwX1_run_1 ++ dktX1_run_2
def dkwX1_run_0 : List UInt8 := [42, 182, 0, 41, 77, 5, 188, 10, 89, 3, 42, 180, 0, 13, 3, 184, 0, 32, 79, 89, 4, 42]
abbrev dktX1_run_0 : List UInt8 := dkwX1_run_0 ++ dktX1_run_1
theorem dksX1_run_0 : cX1_run.data.toList.drop 0 = dktX1_run_0 := by decide +kernel
theorem dksX1_run_1 : cX1_run.data.toList.drop 22 = dktX1_run_1 := dk_seg dksX1_run_0 22 rfl rfl
theorem dksX1_run_2 : cX1_run.data.toList.drop 46 = dktX1_run_2 := dk_seg dksX1_run_1 24 rfl rfl
theorem dksX1_run_3 : cX1_run.data.toList.drop 70 = dktX1_run_3 := dk_seg dksX1_run_2 24 rfl rfl
theorem dksX1_run_4 : cX1_run.data.toList.drop 94 = dktX1_run_4 := dk_seg dksX1_run_3 24 rfl rfl
theorem dksX1_run_5 : cX1_run.data.toList.drop 118 = dktX1_run_5 := dk_seg dksX1_run_4 24 rfl rfl
theorem dksX1_run_6 : cX1_run.data.toList.drop 142 = dktX1_run_6 := dk_seg dksX1_run_5 24 rfl rfl
theorem dksX1_run_7 : cX1_run.data.toList.drop 166 = dktX1_run_7 := dk_seg dksX1_run_6 24 rfl rfl
theorem dksX1_run_8 : cX1_run.data.toList.drop 188 = dktX1_run_8 := dk_seg dksX1_run_7 22 rfl rfl
theorem dksX1_run_9 : cX1_run.data.toList.drop 212 = dktX1_run_9 := dk_seg dksX1_run_8 24 rfl rfl
theorem dX1_run_0 : decode cX1_run 0 = .ok (.aload_n 0, 1) := dk_42 (dk_at dksX1_run_0 0 rfl rfl)
theorem dX1_run_1 : decode cX1_run 1 = .ok (.invokevirtual 41, 3) := dk_182 0 41 (dk_at dksX1_run_0 1 rfl rfl)
theorem dX1_run_4 : decode cX1_run 4 = .ok (.astore_n 2, 1) := dk_77 (dk_at dksX1_run_0 4 rfl rfl)
theorem dX1_run_5 : decode cX1_run 5 = .ok (.iconst 2, 1) := dk_5 (dk_at dksX1_run_0 5 rfl rfl)
theorem dX1_run_6 : decode cX1_run 6 = .ok (.newarray .int, 2) := dk_188_10 (dk_at dksX1_run_0 6 rfl rfl)
theorem dX1_run_8 : decode cX1_run 8 = .ok (.dup, 1) := dk_89 (dk_at dksX1_run_0 8 rfl rfl)
theorem dX1_run_9 : decode cX1_run 9 = .ok (.iconst 0, 1) := dk_3 (dk_at dksX1_run_0 9 rfl rfl)
theorem dX1_run_10 : decode cX1_run 10 = .ok (.aload_n 0, 1) := dk_42 (dk_at dksX1_run_0 10 rfl rfl)
theorem dX1_run_11 : decode cX1_run 11 = .ok (.getfield 13, 3) := dk_180 0 13 (dk_at dksX1_run_0 11 rfl rfl)
theorem dX1_run_14 : decode cX1_run 14 = .ok (.iconst 0, 1) := dk_3 (dk_at dksX1_run_0 14 rfl rfl)
theorem dX1_run_15 : decode cX1_run 15 = .ok (.invokestatic 32, 3) := dk_184 0 32 (dk_at dksX1_run_0 15 rfl rfl)
theorem dX1_run_18 : decode cX1_run 18 = .ok (.iastore, 1) := dk_79 (dk_at dksX1_run_0 18 rfl rfl)
theorem dX1_run_19 : decode cX1_run 19 = .ok (.dup, 1) := dk_89 (dk_at dksX1_run_0 19 rfl rfl)
theorem dX1_run_20 : decode cX1_run 20 = .ok (.iconst 1, 1) := dk_4 (dk_at dksX1_run_0 20 rfl rfl)
theorem dX1_run_21 : decode cX1_run 21 = .ok (.aload_n 0, 1) := dk_42 (dk_at dksX1_run_0 21 rfl rfl)
theorem dX1_run_22 : decode cX1_run 22 = .ok (.getfield 13, 3) := dk_180 0 13 (dk_at dksX1_run_1 0 rfl rfl)
theorem dX1_run_25 : decode cX1_run 25 = .ok (.iconst 4, 1) := dk_7 (dk_at dksX1_run_1 3 rfl rfl)
theorem dX1_run_26 : decode cX1_run 26 = .ok (.invokestatic 32, 3) := dk_184 0 32 (dk_at dksX1_run_1 4 rfl rfl)
theorem dX1_run_29 : decode cX1_run 29 = .ok (.iastore, 1) := dk_79 (dk_at dksX1_run_1 7 rfl rfl)
theorem dX1_run_30 : decode cX1_run 30 = .ok (.astore_n 3, 1) := dk_78 (dk_at dksX1_run_1 8 rfl rfl)
theorem dX1_run_31 : decode cX1_run 31 = .ok (.iconst 2, 1) := dk_5 (dk_at dksX1_run_1 9 rfl rfl)
theorem dX1_run_32 : decode cX1_run 32 = .ok (.newarray .int, 2) := dk_188_10 (dk_at dksX1_run_1 10 rfl rfl)
theorem dX1_run_34 : decode cX1_run 34 = .ok (.dup, 1) := dk_89 (dk_at dksX1_run_1 12 rfl rfl)
theorem dX1_run_35 : decode cX1_run 35 = .ok (.iconst 0, 1) := dk_3 (dk_at dksX1_run_1 13 rfl rfl)
theorem dX1_run_36 : decode cX1_run 36 = .ok (.aload_n 0, 1) := dk_42 (dk_at dksX1_run_1 14 rfl rfl)
theorem dX1_run_37 : decode cX1_run 37 = .ok (.getfield 13, 3) := dk_180 0 13 (dk_at dksX1_run_1 15 rfl rfl)
theorem dX1_run_40 : decode cX1_run 40 = .ok (.bipush 8, 2) := dk_16 8 (dk_at dksX1_run_1 18 rfl rfl)
theorem dX1_run_42 : decode cX1_run 42 = .ok (.invokestatic 32, 3) := dk_184 0 32 (dk_at dksX1_run_1 20 rfl rfl)
theorem dX1_run_45 : decode cX1_run 45 = .ok (.iastore, 1) := dk_79 (dk_at dksX1_run_1 23 rfl rfl)
theorem dX1_run_46 : decode cX1_run 46 = .ok (.dup, 1) := dk_89 (dk_at dksX1_run_2 0 rfl rfl)
theorem dX1_run_47 : decode cX1_run 47 = .ok (.iconst 1, 1) := dk_4 (dk_at dksX1_run_2 1 rfl rfl)
theorem dX1_run_48 : decode cX1_run 48 = .ok (.aload_n 0, 1) := dk_42 (dk_at dksX1_run_2 2 rfl rfl)
theorem dX1_run_49 : decode cX1_run 49 = .ok (.getfield 13, 3) := dk_180 0 13 (dk_at dksX1_run_2 3 rfl rfl)
theorem dX1_run_52 : decode cX1_run 52 = .ok (.bipush 12, 2) := dk_16 12 (dk_at dksX1_run_2 6 rfl rfl)
theorem dX1_run_54 : decode cX1_run 54 = .ok (.invokestatic 32, 3) := dk_184 0 32 (dk_at dksX1_run_2 8 rfl rfl)
theorem dX1_run_57 : decode cX1_run 57 = .ok (.iastore, 1) := dk_79 (dk_at dksX1_run_2 11 rfl rfl)
theorem dX1_run_58 : decode cX1_run 58 = .ok (.astore 4, 2) := dk_58 4 (dk_at dksX1_run_2 12 rfl rfl)
theorem dX1_run_60 : decode cX1_run 60 = .ok (.iconst 0, 1) := dk_3 (dk_at dksX1_run_2 14 rfl rfl)
theorem dX1_run_61 : decode cX1_run 61 = .ok (.istore 5, 2) := dk_54 5 (dk_at dksX1_run_2 15 rfl rfl)
theorem dX1_run_63 : decode cX1_run 63 = .ok (.iload 5, 2) := dk_21 5 (dk_at dksX1_run_2 17 rfl rfl)
theorem dX1_run_65 : decode cX1_run 65 = .ok (.bipush 16, 2) := dk_16 16 (dk_at dksX1_run_2 19 rfl rfl)
theorem dX1_run_67 : decode cX1_run 67 = .ok (.if_icmp .ge 120, 3) := dk_162 0 120 (dk_at dksX1_run_2 21 rfl rfl)
theorem dX1_run_70 : decode cX1_run 70 = .ok (.iload_n 1, 1) := dk_27 (dk_at dksX1_run_3 0 rfl rfl)
theorem dX1_run_71 : decode cX1_run 71 = .ok (.ifCond .eq 8, 3) := dk_153 0 8 (dk_at dksX1_run_3 1 rfl rfl)
theorem dX1_run_74 : decode cX1_run 74 = .ok (.iload 5, 2) := dk_21 5 (dk_at dksX1_run_3 4 rfl rfl)
theorem dX1_run_76 : decode cX1_run 76 = .ok (.goto 8, 3) := dk_167 0 8 (dk_at dksX1_run_3 6 rfl rfl)
theorem dX1_run_79 : decode cX1_run 79 = .ok (.bipush 15, 2) := dk_16 15 (dk_at dksX1_run_3 9 rfl rfl)
theorem dX1_run_81 : decode cX1_run 81 = .ok (.iload 5, 2) := dk_21 5 (dk_at dksX1_run_3 11 rfl rfl)
theorem dX1_run_83 : decode cX1_run 83 = .ok (.isub, 1) := dk_100 (dk_at dksX1_run_3 13 rfl rfl)
theorem dX1_run_84 : decode cX1_run 84 = .ok (.istore 6, 2) := dk_54 6 (dk_at dksX1_run_3 14 rfl rfl)
theorem dX1_run_86 : decode cX1_run 86 = .ok (.aload 4, 2) := dk_25 4 (dk_at dksX1_run_3 16 rfl rfl)
theorem dX1_run_88 : decode cX1_run 88 = .ok (.iconst 0, 1) := dk_3 (dk_at dksX1_run_3 18 rfl rfl)
theorem dX1_run_89 : decode cX1_run 89 = .ok (.iaload, 1) := dk_46 (dk_at dksX1_run_3 19 rfl rfl)
theorem dX1_run_90 : decode cX1_run 90 = .ok (.aload_n 2, 1) := dk_44 (dk_at dksX1_run_3 20 rfl rfl)
theorem dX1_run_91 : decode cX1_run 91 = .ok (.iconst 2, 1) := dk_5 (dk_at dksX1_run_3 21 rfl rfl)
theorem dX1_run_92 : decode cX1_run 92 = .ok (.iload 6, 2) := dk_21 6 (dk_at dksX1_run_3 22 rfl rfl)
theorem dX1_run_94 : decode cX1_run 94 = .ok (.imul, 1) := dk_104 (dk_at dksX1_run_4 0 rfl rfl)
theorem dX1_run_95 : decode cX1_run 95 = .ok (.iaload, 1) := dk_46 (dk_at dksX1_run_4 1 rfl rfl)
theorem dX1_run_96 : decode cX1_run 96 = .ok (.ixor, 1) := dk_130 (dk_at dksX1_run_4 2 rfl rfl)
theorem dX1_run_97 : decode cX1_run 97 = .ok (.istore 7, 2) := dk_54 7 (dk_at dksX1_run_4 3 rfl rfl)
theorem dX1_run_99 : decode cX1_run 99 = .ok (.aload 4, 2) := dk_25 4 (dk_at dksX1_run_4 5 rfl rfl)
theorem dX1_run_101 : decode cX1_run 101 = .ok (.iconst 1, 1) := dk_4 (dk_at dksX1_run_4 7 rfl rfl)
theorem dX1_run_102 : decode cX1_run 102 = .ok (.iaload, 1) := dk_46 (dk_at dksX1_run_4 8 rfl rfl)
theorem dX1_run_103 : decode cX1_run 103 = .ok (.aload_n 2, 1) := dk_44 (dk_at dksX1_run_4 9 rfl rfl)
theorem dX1_run_104 : decode cX1_run 104 = .ok (.iconst 2, 1) := dk_5 (dk_at dksX1_run_4 10 rfl rfl)
theorem dX1_run_105 : decode cX1_run 105 = .ok (.iload 6, 2) := dk_21 6 (dk_at dksX1_run_4 11 rfl rfl)
theorem dX1_run_107 : decode cX1_run 107 = .ok (.imul, 1) := dk_104 (dk_at dksX1_run_4 13 rfl rfl)
theorem dX1_run_108 : decode cX1_run 108 = .ok (.iconst 1, 1) := dk_4 (dk_at dksX1_run_4 14 rfl rfl)
theorem dX1_run_109 : decode cX1_run 109 = .ok (.iadd, 1) := dk_96 (dk_at dksX1_run_4 15 rfl rfl)
theorem dX1_run_110 : decode cX1_run 110 = .ok (.iaload, 1) := dk_46 (dk_at dksX1_run_4 16 rfl rfl)
theorem dX1_run_111 : decode cX1_run 111 = .ok (.ixor, 1) := dk_130 (dk_at dksX1_run_4 17 rfl rfl)
theorem dX1_run_112 : decode cX1_run 112 = .ok (.istore 8, 2) := dk_54 8 (dk_at dksX1_run_4 18 rfl rfl)
theorem dX1_run_114 : decode cX1_run 114 = .ok (.iload 7, 2) := dk_21 7 (dk_at dksX1_run_4 20 rfl rfl)
theorem dX1_run_116 : decode cX1_run 116 = .ok (.iload 8, 2) := dk_21 8 (dk_at dksX1_run_4 22 rfl rfl)
theorem dX1_run_118 : decode cX1_run 118 = .ok (.ixor, 1) := dk_130 (dk_at dksX1_run_5 0 rfl rfl)
theorem dX1_run_119 : decode cX1_run 119 = .ok (.invokestatic 37, 3) := dk_184 0 37 (dk_at dksX1_run_5 1 rfl rfl)
theorem dX1_run_122 : decode cX1_run 122 = .ok (.istore 8, 2) := dk_54 8 (dk_at dksX1_run_5 4 rfl rfl)
theorem dX1_run_124 : decode cX1_run 124 = .ok (.iload 7, 2) := dk_21 7 (dk_at dksX1_run_5 6 rfl rfl)
theorem dX1_run_126 : decode cX1_run 126 = .ok (.iload 8, 2) := dk_21 8 (dk_at dksX1_run_5 8 rfl rfl)
theorem dX1_run_128 : decode cX1_run 128 = .ok (.iadd, 1) := dk_96 (dk_at dksX1_run_5 10 rfl rfl)
theorem dX1_run_129 : decode cX1_run 129 = .ok (.invokestatic 37, 3) := dk_184 0 37 (dk_at dksX1_run_5 11 rfl rfl)
theorem dX1_run_132 : decode cX1_run 132 = .ok (.istore 7, 2) := dk_54 7 (dk_at dksX1_run_5 14 rfl rfl)
theorem dX1_run_134 : decode cX1_run 134 = .ok (.iload 8, 2) := dk_21 8 (dk_at dksX1_run_5 16 rfl rfl)
theorem dX1_run_136 : decode cX1_run 136 = .ok (.iload 7, 2) := dk_21 7 (dk_at dksX1_run_5 18 rfl rfl)
theorem dX1_run_138 : decode cX1_run 138 = .ok (.iadd, 1) := dk_96 (dk_at dksX1_run_5 20 rfl rfl)
theorem dX1_run_139 : decode cX1_run 139 = .ok (.invokestatic 37, 3) := dk_184 0 37 (dk_at dksX1_run_5 21 rfl rfl)
theorem dX1_run_142 : decode cX1_run 142 = .ok (.istore 8, 2) := dk_54 8 (dk_at dksX1_run_6 0 rfl rfl)
theorem dX1_run_144 : decode cX1_run 144 = .ok (.iload 7, 2) := dk_21 7 (dk_at dksX1_run_6 2 rfl rfl)
theorem dX1_run_146 : decode cX1_run 146 = .ok (.iload 8, 2) := dk_21 8 (dk_at dksX1_run_6 4 rfl rfl)
theorem dX1_run_148 : decode cX1_run 148 = .ok (.iadd, 1) := dk_96 (dk_at dksX1_run_6 6 rfl rfl)
theorem dX1_run_149 : decode cX1_run 149 = .ok (.istore 7, 2) := dk_54 7 (dk_at dksX1_run_6 7 rfl rfl)
theorem dX1_run_151 : decode cX1_run 151 = .ok (.iconst 2, 1) := dk_5 (dk_at dksX1_run_6 9 rfl rfl)
theorem dX1_run_152 : decode cX1_run 152 = .ok (.newarray .int, 2) := dk_188_10 (dk_at dksX1_run_6 10 rfl rfl)
theorem dX1_run_154 : decode cX1_run 154 = .ok (.dup, 1) := dk_89 (dk_at dksX1_run_6 12 rfl rfl)
theorem dX1_run_155 : decode cX1_run 155 = .ok (.iconst 0, 1) := dk_3 (dk_at dksX1_run_6 13 rfl rfl)
theorem dX1_run_156 : decode cX1_run 156 = .ok (.aload_n 3, 1) := dk_45 (dk_at dksX1_run_6 14 rfl rfl)
theorem dX1_run_157 : decode cX1_run 157 = .ok (.iconst 0, 1) := dk_3 (dk_at dksX1_run_6 15 rfl rfl)
theorem dX1_run_158 : decode cX1_run 158 = .ok (.iaload, 1) := dk_46 (dk_at dksX1_run_6 16 rfl rfl)
theorem dX1_run_159 : decode cX1_run 159 = .ok (.iload 7, 2) := dk_21 7 (dk_at dksX1_run_6 17 rfl rfl)
theorem dX1_run_161 : decode cX1_run 161 = .ok (.ixor, 1) := dk_130 (dk_at dksX1_run_6 19 rfl rfl)
theorem dX1_run_162 : decode cX1_run 162 = .ok (.iastore, 1) := dk_79 (dk_at dksX1_run_6 20 rfl rfl)
theorem dX1_run_163 : decode cX1_run 163 = .ok (.dup, 1) := dk_89 (dk_at dksX1_run_6 21 rfl rfl)
theorem dX1_run_164 : decode cX1_run 164 = .ok (.iconst 1, 1) := dk_4 (dk_at dksX1_run_6 22 rfl rfl)
theorem dX1_run_165 : decode cX1_run 165 = .ok (.aload_n 3, 1) := dk_45 (dk_at dksX1_run_6 23 rfl rfl)
theorem dX1_run_166 : decode cX1_run 166 = .ok (.iconst 1, 1) := dk_4 (dk_at dksX1_run_7 0 rfl rfl)
theorem dX1_run_167 : decode cX1_run 167 = .ok (.iaload, 1) := dk_46 (dk_at dksX1_run_7 1 rfl rfl)
theorem dX1_run_168 : decode cX1_run 168 = .ok (.iload 8, 2) := dk_21 8 (dk_at dksX1_run_7 2 rfl rfl)
theorem dX1_run_170 : decode cX1_run 170 = .ok (.ixor, 1) := dk_130 (dk_at dksX1_run_7 4 rfl rfl)
theorem dX1_run_171 : decode cX1_run 171 = .ok (.iastore, 1) := dk_79 (dk_at dksX1_run_7 5 rfl rfl)
theorem dX1_run_172 : decode cX1_run 172 = .ok (.astore 9, 2) := dk_58 9 (dk_at dksX1_run_7 6 rfl rfl)
theorem dX1_run_174 : decode cX1_run 174 = .ok (.aload 4, 2) := dk_25 4 (dk_at dksX1_run_7 8 rfl rfl)
theorem dX1_run_176 : decode cX1_run 176 = .ok (.astore_n 3, 1) := dk_78 (dk_at dksX1_run_7 10 rfl rfl)
theorem dX1_run_177 : decode cX1_run 177 = .ok (.aload 9, 2) := dk_25 9 (dk_at dksX1_run_7 11 rfl rfl)
theorem dX1_run_179 : decode cX1_run 179 = .ok (.astore 4, 2) := dk_58 4 (dk_at dksX1_run_7 13 rfl rfl)
theorem dX1_run_181 : decode cX1_run 181 = .ok (.iinc 5 1, 3) := dk_132 5 1 (dk_at dksX1_run_7 15 rfl rfl)
theorem dX1_run_184 : decode cX1_run 184 = .ok (.goto (-121), 3) := dk_167 255 135 (dk_at dksX1_run_7 18 rfl rfl)
theorem dX1_run_187 : decode cX1_run 187 = .ok (.aload_n 0, 1) := dk_42 (dk_at dksX1_run_7 21 rfl rfl)
theorem dX1_run_188 : decode cX1_run 188 = .ok (.getfield 16, 3) := dk_180 0 16 (dk_at dksX1_run_8 0 rfl rfl)
theorem dX1_run_191 : decode cX1_run 191 = .ok (.iconst 0, 1) := dk_3 (dk_at dksX1_run_8 3 rfl rfl)
theorem dX1_run_192 : decode cX1_run 192 = .ok (.aload 4, 2) := dk_25 4 (dk_at dksX1_run_8 4 rfl rfl)
theorem dX1_run_194 : decode cX1_run 194 = .ok (.iconst 0, 1) := dk_3 (dk_at dksX1_run_8 6 rfl rfl)
theorem dX1_run_195 : decode cX1_run 195 = .ok (.iaload, 1) := dk_46 (dk_at dksX1_run_8 7 rfl rfl)
theorem dX1_run_196 : decode cX1_run 196 = .ok (.invokestatic 19, 3) := dk_184 0 19 (dk_at dksX1_run_8 8 rfl rfl)
theorem dX1_run_199 : decode cX1_run 199 = .ok (.aload_n 0, 1) := dk_42 (dk_at dksX1_run_8 11 rfl rfl)
theorem dX1_run_200 : decode cX1_run 200 = .ok (.getfield 16, 3) := dk_180 0 16 (dk_at dksX1_run_8 12 rfl rfl)
theorem dX1_run_203 : decode cX1_run 203 = .ok (.iconst 4, 1) := dk_7 (dk_at dksX1_run_8 15 rfl rfl)
theorem dX1_run_204 : decode cX1_run 204 = .ok (.aload 4, 2) := dk_25 4 (dk_at dksX1_run_8 16 rfl rfl)
theorem dX1_run_206 : decode cX1_run 206 = .ok (.iconst 1, 1) := dk_4 (dk_at dksX1_run_8 18 rfl rfl)
theorem dX1_run_207 : decode cX1_run 207 = .ok (.iaload, 1) := dk_46 (dk_at dksX1_run_8 19 rfl rfl)
theorem dX1_run_208 : decode cX1_run 208 = .ok (.invokestatic 19, 3) := dk_184 0 19 (dk_at dksX1_run_8 20 rfl rfl)
theorem dX1_run_211 : decode cX1_run 211 = .ok (.aload_n 0, 1) := dk_42 (dk_at dksX1_run_8 23 rfl rfl)
theorem dX1_run_212 : decode cX1_run 212 = .ok (.getfield 16, 3) := dk_180 0 16 (dk_at dksX1_run_9 0 rfl rfl)
theorem dX1_run_215 : decode cX1_run 215 = .ok (.bipush 8, 2) := dk_16 8 (dk_at dksX1_run_9 3 rfl rfl)
theorem dX1_run_217 : decode cX1_run 217 = .ok (.aload_n 3, 1) := dk_45 (dk_at dksX1_run_9 5 rfl rfl)
theorem dX1_run_218 : decode cX1_run 218 = .ok (.iconst 0, 1) := dk_3 (dk_at dksX1_run_9 6 rfl rfl)
theorem dX1_run_219 : decode cX1_run 219 = .ok (.iaload, 1) := dk_46 (dk_at dksX1_run_9 7 rfl rfl)
theorem dX1_run_220 : decode cX1_run 220 = .ok (.invokestatic 19, 3) := dk_184 0 19 (dk_at dksX1_run_9 8 rfl rfl)
theorem dX1_run_223 : decode cX1_run 223 = .ok (.aload_n 0, 1) := dk_42 (dk_at dksX1_run_9 11 rfl rfl)
theorem dX1_run_224 : decode cX1_run 224 = .ok (.getfield 16, 3) := dk_180 0 16 (dk_at dksX1_run_9 12 rfl rfl)
theorem dX1_run_227 : decode cX1_run 227 = .ok (.bipush 12, 2) := dk_16 12 (dk_at dksX1_run_9 15 rfl rfl)
theorem dX1_run_229 : decode cX1_run 229 = .ok (.aload_n 3, 1) := dk_45 (dk_at dksX1_run_9 17 rfl rfl)
theorem dX1_run_230 : decode cX1_run 230 = .ok (.iconst 1, 1) := dk_4 (dk_at dksX1_run_9 18 rfl rfl)
theorem dX1_run_231 : decode cX1_run 231 = .ok (.iaload, 1) := dk_46 (dk_at dksX1_run_9 19 rfl rfl)
theorem dX1_run_232 : decode cX1_run 232 = .ok (.invokestatic 19, 3) := dk_184 0 19 (dk_at dksX1_run_9 20 rfl rfl)
theorem dX1_run_235 : decode cX1_run 235 = .ok (.return_, 1) := dk_177 (dk_at dksX1_run_9 23 rfl rfl)
abbrev cX1_rounds : ByteArray := prog_10_method_7_code
def yX1_rounds : MethodName := ⟨RX1, "rounds", "()[I"⟩
def dkwX1_rounds_7 : List UInt8 := [128, 54, 6, 132, 7, 1, 167, 255, 136, 43, 176]
abbrev dktX1_rounds_7 : List UInt8 := dkwX1_rounds_7 ++ []
def dkwX1_rounds_6 : List UInt8 := [54, 4, 21, 5, 16, 8, 120, 21, 8, 16, 24, 124, 128, 54, 5, 21, 6, 4, 120, 21, 6, 16, 31, 124]
abbrev dktX1_rounds_6 : List UInt8 := dkwX1_rounds_6 ++ dktX1_rounds_7
def dkwX1_rounds_5 : List UInt8 := [16, 24, 120, 128, 62, 167, 0, 33, 21, 4, 54, 8, 21, 4, 16, 8, 120, 21, 5, 16, 24, 124, 128]
abbrev dktX1_rounds_5 : List UInt8 := dkwX1_rounds_5 ++ dktX1_rounds_6
def dkwX1_rounds_4 : List UInt8 := [5, 112, 154, 0, 30, 28, 54, 8, 28, 16, 8, 124, 29, 16, 24, 120, 128, 61, 29, 16, 8, 124, 21, 8]
abbrev dktX1_rounds_4 : List UInt8 := dkwX1_rounds_4 ++ dktX1_rounds_5
def dkwX1_rounds_3 : List UInt8 := [184, 0, 37, 79, 43, 5, 21, 7, 104, 4, 96, 29, 21, 5, 100, 21, 6, 96, 184, 0, 37, 79, 21, 7]
abbrev dktX1_rounds_3 : List UInt8 := dkwX1_rounds_3 ++ dktX1_rounds_4
def dkwX1_rounds_2 : List UInt8 := [54, 6, 3, 54, 7, 21, 7, 16, 16, 162, 0, 119, 43, 5, 21, 7, 104, 28, 21, 4, 96, 21, 6, 100]
abbrev dktX1_rounds_2 : List UInt8 := dkwX1_rounds_2 ++ dktX1_rounds_3
def dkwX1_rounds_1 : List UInt8 := [180, 0, 7, 16, 8, 184, 0, 32, 54, 4, 42, 180, 0, 7, 16, 12, 184, 0, 32, 54, 5, 18, 36]
abbrev dktX1_rounds_1 : List UInt8 := dkwX1_rounds_1 ++ dktX1_rounds_2
def dkwX1_rounds_0 : List UInt8 := [16, 32, 188, 10, 76, 42, 180, 0, 7, 3, 184, 0, 32, 61, 42, 180, 0, 7, 7, 184, 0, 32, 62, 42]
abbrev dktX1_rounds_0 : List UInt8 := dkwX1_rounds_0 ++ dktX1_rounds_1
theorem dksX1_rounds_0 : cX1_rounds.data.toList.drop 0 = dktX1_rounds_0 := by decide +kernel
theorem dksX1_rounds_1 : cX1_rounds.data.toList.drop 24 = dktX1_rounds_1 := dk_seg dksX1_rounds_0 24 rfl rfl
theorem dksX1_rounds_2 : cX1_rounds.data.toList.drop 47 = dktX1_rounds_2 := dk_seg dksX1_rounds_1 23 rfl rfl
theorem dksX1_rounds_3 : cX1_rounds.data.toList.drop 71 = dktX1_rounds_3 := dk_seg dksX1_rounds_2 24 rfl rfl
theorem dksX1_rounds_4 : cX1_rounds.data.toList.drop 95 = dktX1_rounds_4 := dk_seg dksX1_rounds_3 24 rfl rfl
theorem dksX1_rounds_5 : cX1_rounds.data.toList.drop 119 = dktX1_rounds_5 := dk_seg dksX1_rounds_4 24 rfl rfl
theorem dksX1_rounds_6 : cX1_rounds.data.toList.drop 142 = dktX1_rounds_6 := dk_seg dksX1_rounds_5 23 rfl rfl
theorem dksX1_rounds_7 : cX1_rounds.data.toList.drop 166 = dktX1_rounds_7 := dk_seg dksX1_rounds_6 24 rfl rfl
theorem dX1_rounds_0 : decode cX1_rounds 0 = .ok (.bipush 32, 2) := dk_16 32 (dk_at dksX1_rounds_0 0 rfl rfl)
theorem dX1_rounds_2 : decode cX1_rounds 2 = .ok (.newarray .int, 2) := dk_188_10 (dk_at dksX1_rounds_0 2 rfl rfl)
theorem dX1_rounds_4 : decode cX1_rounds 4 = .ok (.astore_n 1, 1) := dk_76 (dk_at dksX1_rounds_0 4 rfl rfl)
theorem dX1_rounds_5 : decode cX1_rounds 5 = .ok (.aload_n 0, 1) := dk_42 (dk_at dksX1_rounds_0 5 rfl rfl)
theorem dX1_rounds_6 : decode cX1_rounds 6 = .ok (.getfield 7, 3) := dk_180 0 7 (dk_at dksX1_rounds_0 6 rfl rfl)
theorem dX1_rounds_9 : decode cX1_rounds 9 = .ok (.iconst 0, 1) := dk_3 (dk_at dksX1_rounds_0 9 rfl rfl)
theorem dX1_rounds_10 : decode cX1_rounds 10 = .ok (.invokestatic 32, 3) := dk_184 0 32 (dk_at dksX1_rounds_0 10 rfl rfl)
theorem dX1_rounds_13 : decode cX1_rounds 13 = .ok (.istore_n 2, 1) := dk_61 (dk_at dksX1_rounds_0 13 rfl rfl)
theorem dX1_rounds_14 : decode cX1_rounds 14 = .ok (.aload_n 0, 1) := dk_42 (dk_at dksX1_rounds_0 14 rfl rfl)
theorem dX1_rounds_15 : decode cX1_rounds 15 = .ok (.getfield 7, 3) := dk_180 0 7 (dk_at dksX1_rounds_0 15 rfl rfl)
theorem dX1_rounds_18 : decode cX1_rounds 18 = .ok (.iconst 4, 1) := dk_7 (dk_at dksX1_rounds_0 18 rfl rfl)
theorem dX1_rounds_19 : decode cX1_rounds 19 = .ok (.invokestatic 32, 3) := dk_184 0 32 (dk_at dksX1_rounds_0 19 rfl rfl)
theorem dX1_rounds_22 : decode cX1_rounds 22 = .ok (.istore_n 3, 1) := dk_62 (dk_at dksX1_rounds_0 22 rfl rfl)
theorem dX1_rounds_23 : decode cX1_rounds 23 = .ok (.aload_n 0, 1) := dk_42 (dk_at dksX1_rounds_0 23 rfl rfl)
theorem dX1_rounds_24 : decode cX1_rounds 24 = .ok (.getfield 7, 3) := dk_180 0 7 (dk_at dksX1_rounds_1 0 rfl rfl)
theorem dX1_rounds_27 : decode cX1_rounds 27 = .ok (.bipush 8, 2) := dk_16 8 (dk_at dksX1_rounds_1 3 rfl rfl)
theorem dX1_rounds_29 : decode cX1_rounds 29 = .ok (.invokestatic 32, 3) := dk_184 0 32 (dk_at dksX1_rounds_1 5 rfl rfl)
theorem dX1_rounds_32 : decode cX1_rounds 32 = .ok (.istore 4, 2) := dk_54 4 (dk_at dksX1_rounds_1 8 rfl rfl)
theorem dX1_rounds_34 : decode cX1_rounds 34 = .ok (.aload_n 0, 1) := dk_42 (dk_at dksX1_rounds_1 10 rfl rfl)
theorem dX1_rounds_35 : decode cX1_rounds 35 = .ok (.getfield 7, 3) := dk_180 0 7 (dk_at dksX1_rounds_1 11 rfl rfl)
theorem dX1_rounds_38 : decode cX1_rounds 38 = .ok (.bipush 12, 2) := dk_16 12 (dk_at dksX1_rounds_1 14 rfl rfl)
theorem dX1_rounds_40 : decode cX1_rounds 40 = .ok (.invokestatic 32, 3) := dk_184 0 32 (dk_at dksX1_rounds_1 16 rfl rfl)
theorem dX1_rounds_43 : decode cX1_rounds 43 = .ok (.istore 5, 2) := dk_54 5 (dk_at dksX1_rounds_1 19 rfl rfl)
theorem dX1_rounds_45 : decode cX1_rounds 45 = .ok (.ldc 36, 2) := dk_18 36 (dk_at dksX1_rounds_1 21 rfl rfl)
theorem dX1_rounds_47 : decode cX1_rounds 47 = .ok (.istore 6, 2) := dk_54 6 (dk_at dksX1_rounds_2 0 rfl rfl)
theorem dX1_rounds_49 : decode cX1_rounds 49 = .ok (.iconst 0, 1) := dk_3 (dk_at dksX1_rounds_2 2 rfl rfl)
theorem dX1_rounds_50 : decode cX1_rounds 50 = .ok (.istore 7, 2) := dk_54 7 (dk_at dksX1_rounds_2 3 rfl rfl)
theorem dX1_rounds_52 : decode cX1_rounds 52 = .ok (.iload 7, 2) := dk_21 7 (dk_at dksX1_rounds_2 5 rfl rfl)
theorem dX1_rounds_54 : decode cX1_rounds 54 = .ok (.bipush 16, 2) := dk_16 16 (dk_at dksX1_rounds_2 7 rfl rfl)
theorem dX1_rounds_56 : decode cX1_rounds 56 = .ok (.if_icmp .ge 119, 3) := dk_162 0 119 (dk_at dksX1_rounds_2 9 rfl rfl)
theorem dX1_rounds_59 : decode cX1_rounds 59 = .ok (.aload_n 1, 1) := dk_43 (dk_at dksX1_rounds_2 12 rfl rfl)
theorem dX1_rounds_60 : decode cX1_rounds 60 = .ok (.iconst 2, 1) := dk_5 (dk_at dksX1_rounds_2 13 rfl rfl)
theorem dX1_rounds_61 : decode cX1_rounds 61 = .ok (.iload 7, 2) := dk_21 7 (dk_at dksX1_rounds_2 14 rfl rfl)
theorem dX1_rounds_63 : decode cX1_rounds 63 = .ok (.imul, 1) := dk_104 (dk_at dksX1_rounds_2 16 rfl rfl)
theorem dX1_rounds_64 : decode cX1_rounds 64 = .ok (.iload_n 2, 1) := dk_28 (dk_at dksX1_rounds_2 17 rfl rfl)
theorem dX1_rounds_65 : decode cX1_rounds 65 = .ok (.iload 4, 2) := dk_21 4 (dk_at dksX1_rounds_2 18 rfl rfl)
theorem dX1_rounds_67 : decode cX1_rounds 67 = .ok (.iadd, 1) := dk_96 (dk_at dksX1_rounds_2 20 rfl rfl)
theorem dX1_rounds_68 : decode cX1_rounds 68 = .ok (.iload 6, 2) := dk_21 6 (dk_at dksX1_rounds_2 21 rfl rfl)
theorem dX1_rounds_70 : decode cX1_rounds 70 = .ok (.isub, 1) := dk_100 (dk_at dksX1_rounds_2 23 rfl rfl)
theorem dX1_rounds_71 : decode cX1_rounds 71 = .ok (.invokestatic 37, 3) := dk_184 0 37 (dk_at dksX1_rounds_3 0 rfl rfl)
theorem dX1_rounds_74 : decode cX1_rounds 74 = .ok (.iastore, 1) := dk_79 (dk_at dksX1_rounds_3 3 rfl rfl)
theorem dX1_rounds_75 : decode cX1_rounds 75 = .ok (.aload_n 1, 1) := dk_43 (dk_at dksX1_rounds_3 4 rfl rfl)
theorem dX1_rounds_76 : decode cX1_rounds 76 = .ok (.iconst 2, 1) := dk_5 (dk_at dksX1_rounds_3 5 rfl rfl)
theorem dX1_rounds_77 : decode cX1_rounds 77 = .ok (.iload 7, 2) := dk_21 7 (dk_at dksX1_rounds_3 6 rfl rfl)
theorem dX1_rounds_79 : decode cX1_rounds 79 = .ok (.imul, 1) := dk_104 (dk_at dksX1_rounds_3 8 rfl rfl)
theorem dX1_rounds_80 : decode cX1_rounds 80 = .ok (.iconst 1, 1) := dk_4 (dk_at dksX1_rounds_3 9 rfl rfl)
theorem dX1_rounds_81 : decode cX1_rounds 81 = .ok (.iadd, 1) := dk_96 (dk_at dksX1_rounds_3 10 rfl rfl)
theorem dX1_rounds_82 : decode cX1_rounds 82 = .ok (.iload_n 3, 1) := dk_29 (dk_at dksX1_rounds_3 11 rfl rfl)
theorem dX1_rounds_83 : decode cX1_rounds 83 = .ok (.iload 5, 2) := dk_21 5 (dk_at dksX1_rounds_3 12 rfl rfl)
theorem dX1_rounds_85 : decode cX1_rounds 85 = .ok (.isub, 1) := dk_100 (dk_at dksX1_rounds_3 14 rfl rfl)
theorem dX1_rounds_86 : decode cX1_rounds 86 = .ok (.iload 6, 2) := dk_21 6 (dk_at dksX1_rounds_3 15 rfl rfl)
theorem dX1_rounds_88 : decode cX1_rounds 88 = .ok (.iadd, 1) := dk_96 (dk_at dksX1_rounds_3 17 rfl rfl)
theorem dX1_rounds_89 : decode cX1_rounds 89 = .ok (.invokestatic 37, 3) := dk_184 0 37 (dk_at dksX1_rounds_3 18 rfl rfl)
theorem dX1_rounds_92 : decode cX1_rounds 92 = .ok (.iastore, 1) := dk_79 (dk_at dksX1_rounds_3 21 rfl rfl)
theorem dX1_rounds_93 : decode cX1_rounds 93 = .ok (.iload 7, 2) := dk_21 7 (dk_at dksX1_rounds_3 22 rfl rfl)
theorem dX1_rounds_95 : decode cX1_rounds 95 = .ok (.iconst 2, 1) := dk_5 (dk_at dksX1_rounds_4 0 rfl rfl)
theorem dX1_rounds_96 : decode cX1_rounds 96 = .ok (.irem, 1) := dk_112 (dk_at dksX1_rounds_4 1 rfl rfl)
theorem dX1_rounds_97 : decode cX1_rounds 97 = .ok (.ifCond .ne 30, 3) := dk_154 0 30 (dk_at dksX1_rounds_4 2 rfl rfl)
theorem dX1_rounds_100 : decode cX1_rounds 100 = .ok (.iload_n 2, 1) := dk_28 (dk_at dksX1_rounds_4 5 rfl rfl)
theorem dX1_rounds_101 : decode cX1_rounds 101 = .ok (.istore 8, 2) := dk_54 8 (dk_at dksX1_rounds_4 6 rfl rfl)
theorem dX1_rounds_103 : decode cX1_rounds 103 = .ok (.iload_n 2, 1) := dk_28 (dk_at dksX1_rounds_4 8 rfl rfl)
theorem dX1_rounds_104 : decode cX1_rounds 104 = .ok (.bipush 8, 2) := dk_16 8 (dk_at dksX1_rounds_4 9 rfl rfl)
theorem dX1_rounds_106 : decode cX1_rounds 106 = .ok (.iushr, 1) := dk_124 (dk_at dksX1_rounds_4 11 rfl rfl)
theorem dX1_rounds_107 : decode cX1_rounds 107 = .ok (.iload_n 3, 1) := dk_29 (dk_at dksX1_rounds_4 12 rfl rfl)
theorem dX1_rounds_108 : decode cX1_rounds 108 = .ok (.bipush 24, 2) := dk_16 24 (dk_at dksX1_rounds_4 13 rfl rfl)
theorem dX1_rounds_110 : decode cX1_rounds 110 = .ok (.ishl, 1) := dk_120 (dk_at dksX1_rounds_4 15 rfl rfl)
theorem dX1_rounds_111 : decode cX1_rounds 111 = .ok (.ior, 1) := dk_128 (dk_at dksX1_rounds_4 16 rfl rfl)
theorem dX1_rounds_112 : decode cX1_rounds 112 = .ok (.istore_n 2, 1) := dk_61 (dk_at dksX1_rounds_4 17 rfl rfl)
theorem dX1_rounds_113 : decode cX1_rounds 113 = .ok (.iload_n 3, 1) := dk_29 (dk_at dksX1_rounds_4 18 rfl rfl)
theorem dX1_rounds_114 : decode cX1_rounds 114 = .ok (.bipush 8, 2) := dk_16 8 (dk_at dksX1_rounds_4 19 rfl rfl)
theorem dX1_rounds_116 : decode cX1_rounds 116 = .ok (.iushr, 1) := dk_124 (dk_at dksX1_rounds_4 21 rfl rfl)
theorem dX1_rounds_117 : decode cX1_rounds 117 = .ok (.iload 8, 2) := dk_21 8 (dk_at dksX1_rounds_4 22 rfl rfl)
theorem dX1_rounds_119 : decode cX1_rounds 119 = .ok (.bipush 24, 2) := dk_16 24 (dk_at dksX1_rounds_5 0 rfl rfl)
theorem dX1_rounds_121 : decode cX1_rounds 121 = .ok (.ishl, 1) := dk_120 (dk_at dksX1_rounds_5 2 rfl rfl)
theorem dX1_rounds_122 : decode cX1_rounds 122 = .ok (.ior, 1) := dk_128 (dk_at dksX1_rounds_5 3 rfl rfl)
theorem dX1_rounds_123 : decode cX1_rounds 123 = .ok (.istore_n 3, 1) := dk_62 (dk_at dksX1_rounds_5 4 rfl rfl)
theorem dX1_rounds_124 : decode cX1_rounds 124 = .ok (.goto 33, 3) := dk_167 0 33 (dk_at dksX1_rounds_5 5 rfl rfl)
theorem dX1_rounds_127 : decode cX1_rounds 127 = .ok (.iload 4, 2) := dk_21 4 (dk_at dksX1_rounds_5 8 rfl rfl)
theorem dX1_rounds_129 : decode cX1_rounds 129 = .ok (.istore 8, 2) := dk_54 8 (dk_at dksX1_rounds_5 10 rfl rfl)
theorem dX1_rounds_131 : decode cX1_rounds 131 = .ok (.iload 4, 2) := dk_21 4 (dk_at dksX1_rounds_5 12 rfl rfl)
theorem dX1_rounds_133 : decode cX1_rounds 133 = .ok (.bipush 8, 2) := dk_16 8 (dk_at dksX1_rounds_5 14 rfl rfl)
theorem dX1_rounds_135 : decode cX1_rounds 135 = .ok (.ishl, 1) := dk_120 (dk_at dksX1_rounds_5 16 rfl rfl)
theorem dX1_rounds_136 : decode cX1_rounds 136 = .ok (.iload 5, 2) := dk_21 5 (dk_at dksX1_rounds_5 17 rfl rfl)
theorem dX1_rounds_138 : decode cX1_rounds 138 = .ok (.bipush 24, 2) := dk_16 24 (dk_at dksX1_rounds_5 19 rfl rfl)
theorem dX1_rounds_140 : decode cX1_rounds 140 = .ok (.iushr, 1) := dk_124 (dk_at dksX1_rounds_5 21 rfl rfl)
theorem dX1_rounds_141 : decode cX1_rounds 141 = .ok (.ior, 1) := dk_128 (dk_at dksX1_rounds_5 22 rfl rfl)
theorem dX1_rounds_142 : decode cX1_rounds 142 = .ok (.istore 4, 2) := dk_54 4 (dk_at dksX1_rounds_6 0 rfl rfl)
theorem dX1_rounds_144 : decode cX1_rounds 144 = .ok (.iload 5, 2) := dk_21 5 (dk_at dksX1_rounds_6 2 rfl rfl)
theorem dX1_rounds_146 : decode cX1_rounds 146 = .ok (.bipush 8, 2) := dk_16 8 (dk_at dksX1_rounds_6 4 rfl rfl)
theorem dX1_rounds_148 : decode cX1_rounds 148 = .ok (.ishl, 1) := dk_120 (dk_at dksX1_rounds_6 6 rfl rfl)
theorem dX1_rounds_149 : decode cX1_rounds 149 = .ok (.iload 8, 2) := dk_21 8 (dk_at dksX1_rounds_6 7 rfl rfl)
theorem dX1_rounds_151 : decode cX1_rounds 151 = .ok (.bipush 24, 2) := dk_16 24 (dk_at dksX1_rounds_6 9 rfl rfl)
theorem dX1_rounds_153 : decode cX1_rounds 153 = .ok (.iushr, 1) := dk_124 (dk_at dksX1_rounds_6 11 rfl rfl)
theorem dX1_rounds_154 : decode cX1_rounds 154 = .ok (.ior, 1) := dk_128 (dk_at dksX1_rounds_6 12 rfl rfl)
theorem dX1_rounds_155 : decode cX1_rounds 155 = .ok (.istore 5, 2) := dk_54 5 (dk_at dksX1_rounds_6 13 rfl rfl)
theorem dX1_rounds_157 : decode cX1_rounds 157 = .ok (.iload 6, 2) := dk_21 6 (dk_at dksX1_rounds_6 15 rfl rfl)
theorem dX1_rounds_159 : decode cX1_rounds 159 = .ok (.iconst 1, 1) := dk_4 (dk_at dksX1_rounds_6 17 rfl rfl)
theorem dX1_rounds_160 : decode cX1_rounds 160 = .ok (.ishl, 1) := dk_120 (dk_at dksX1_rounds_6 18 rfl rfl)
theorem dX1_rounds_161 : decode cX1_rounds 161 = .ok (.iload 6, 2) := dk_21 6 (dk_at dksX1_rounds_6 19 rfl rfl)
theorem dX1_rounds_163 : decode cX1_rounds 163 = .ok (.bipush 31, 2) := dk_16 31 (dk_at dksX1_rounds_6 21 rfl rfl)
theorem dX1_rounds_165 : decode cX1_rounds 165 = .ok (.iushr, 1) := dk_124 (dk_at dksX1_rounds_6 23 rfl rfl)
theorem dX1_rounds_166 : decode cX1_rounds 166 = .ok (.ior, 1) := dk_128 (dk_at dksX1_rounds_7 0 rfl rfl)
theorem dX1_rounds_167 : decode cX1_rounds 167 = .ok (.istore 6, 2) := dk_54 6 (dk_at dksX1_rounds_7 1 rfl rfl)
theorem dX1_rounds_169 : decode cX1_rounds 169 = .ok (.iinc 7 1, 3) := dk_132 7 1 (dk_at dksX1_rounds_7 3 rfl rfl)
theorem dX1_rounds_172 : decode cX1_rounds 172 = .ok (.goto (-120), 3) := dk_167 255 136 (dk_at dksX1_rounds_7 6 rfl rfl)
theorem dX1_rounds_175 : decode cX1_rounds 175 = .ok (.aload_n 1, 1) := dk_43 (dk_at dksX1_rounds_7 9 rfl rfl)
theorem dX1_rounds_176 : decode cX1_rounds 176 = .ok (.areturn, 1) := dk_176 (dk_at dksX1_rounds_7 10 rfl rfl)
abbrev cX1_four : ByteArray := prog_10_method_6_code
def yX1_four : MethodName := ⟨RX1, "four", "([II)I"⟩
def dkwX1_four_1 : List UInt8 := [42, 27, 6, 96, 46, 128, 172]
abbrev dktX1_four_1 : List UInt8 := dkwX1_four_1 ++ []
def dkwX1_four_0 : List UInt8 := [42, 27, 46, 16, 24, 120, 42, 27, 4, 96, 46, 16, 16, 120, 128, 42, 27, 5, 96, 46, 16, 8, 120, 128]
abbrev dktX1_four_0 : List UInt8 := dkwX1_four_0 ++ dktX1_four_1
theorem dksX1_four_0 : cX1_four.data.toList.drop 0 = dktX1_four_0 := by decide +kernel
theorem dksX1_four_1 : cX1_four.data.toList.drop 24 = dktX1_four_1 := dk_seg dksX1_four_0 24 rfl rfl
theorem dX1_four_0 : decode cX1_four 0 = .ok (.aload_n 0, 1) := dk_42 (dk_at dksX1_four_0 0 rfl rfl)
theorem dX1_four_1 : decode cX1_four 1 = .ok (.iload_n 1, 1) := dk_27 (dk_at dksX1_four_0 1 rfl rfl)
theorem dX1_four_2 : decode cX1_four 2 = .ok (.iaload, 1) := dk_46 (dk_at dksX1_four_0 2 rfl rfl)
theorem dX1_four_3 : decode cX1_four 3 = .ok (.bipush 24, 2) := dk_16 24 (dk_at dksX1_four_0 3 rfl rfl)
theorem dX1_four_5 : decode cX1_four 5 = .ok (.ishl, 1) := dk_120 (dk_at dksX1_four_0 5 rfl rfl)
theorem dX1_four_6 : decode cX1_four 6 = .ok (.aload_n 0, 1) := dk_42 (dk_at dksX1_four_0 6 rfl rfl)
theorem dX1_four_7 : decode cX1_four 7 = .ok (.iload_n 1, 1) := dk_27 (dk_at dksX1_four_0 7 rfl rfl)
theorem dX1_four_8 : decode cX1_four 8 = .ok (.iconst 1, 1) := dk_4 (dk_at dksX1_four_0 8 rfl rfl)
theorem dX1_four_9 : decode cX1_four 9 = .ok (.iadd, 1) := dk_96 (dk_at dksX1_four_0 9 rfl rfl)
theorem dX1_four_10 : decode cX1_four 10 = .ok (.iaload, 1) := dk_46 (dk_at dksX1_four_0 10 rfl rfl)
theorem dX1_four_11 : decode cX1_four 11 = .ok (.bipush 16, 2) := dk_16 16 (dk_at dksX1_four_0 11 rfl rfl)
theorem dX1_four_13 : decode cX1_four 13 = .ok (.ishl, 1) := dk_120 (dk_at dksX1_four_0 13 rfl rfl)
theorem dX1_four_14 : decode cX1_four 14 = .ok (.ior, 1) := dk_128 (dk_at dksX1_four_0 14 rfl rfl)
theorem dX1_four_15 : decode cX1_four 15 = .ok (.aload_n 0, 1) := dk_42 (dk_at dksX1_four_0 15 rfl rfl)
theorem dX1_four_16 : decode cX1_four 16 = .ok (.iload_n 1, 1) := dk_27 (dk_at dksX1_four_0 16 rfl rfl)
theorem dX1_four_17 : decode cX1_four 17 = .ok (.iconst 2, 1) := dk_5 (dk_at dksX1_four_0 17 rfl rfl)
theorem dX1_four_18 : decode cX1_four 18 = .ok (.iadd, 1) := dk_96 (dk_at dksX1_four_0 18 rfl rfl)
theorem dX1_four_19 : decode cX1_four 19 = .ok (.iaload, 1) := dk_46 (dk_at dksX1_four_0 19 rfl rfl)
theorem dX1_four_20 : decode cX1_four 20 = .ok (.bipush 8, 2) := dk_16 8 (dk_at dksX1_four_0 20 rfl rfl)
theorem dX1_four_22 : decode cX1_four 22 = .ok (.ishl, 1) := dk_120 (dk_at dksX1_four_0 22 rfl rfl)
theorem dX1_four_23 : decode cX1_four 23 = .ok (.ior, 1) := dk_128 (dk_at dksX1_four_0 23 rfl rfl)
theorem dX1_four_24 : decode cX1_four 24 = .ok (.aload_n 0, 1) := dk_42 (dk_at dksX1_four_1 0 rfl rfl)
theorem dX1_four_25 : decode cX1_four 25 = .ok (.iload_n 1, 1) := dk_27 (dk_at dksX1_four_1 1 rfl rfl)
theorem dX1_four_26 : decode cX1_four 26 = .ok (.iconst 3, 1) := dk_6 (dk_at dksX1_four_1 2 rfl rfl)
theorem dX1_four_27 : decode cX1_four 27 = .ok (.iadd, 1) := dk_96 (dk_at dksX1_four_1 3 rfl rfl)
theorem dX1_four_28 : decode cX1_four 28 = .ok (.iaload, 1) := dk_46 (dk_at dksX1_four_1 4 rfl rfl)
theorem dX1_four_29 : decode cX1_four 29 = .ok (.ior, 1) := dk_128 (dk_at dksX1_four_1 5 rfl rfl)
theorem dX1_four_30 : decode cX1_four 30 = .ok (.ireturn, 1) := dk_172 (dk_at dksX1_four_1 6 rfl rfl)
abbrev cX1_g : ByteArray := prog_10_method_5_code
def yX1_g : MethodName := ⟨RX1, "g", "(I)I"⟩
def dkwX1_g_5 : List UInt8 := [167, 255, 200, 28, 172]
abbrev dktX1_g_5 : List UInt8 := dkwX1_g_5 ++ []
def dkwX1_g_4 : List UInt8 := [126, 130, 54, 4, 132, 5, 1, 167, 255, 227, 28, 21, 4, 16, 8, 29, 104, 120, 128, 61, 132, 3, 1]
abbrev dktX1_g_4 : List UInt8 := dkwX1_g_4 ++ dktX1_g_5
def dkwX1_g_3 : List UInt8 := [54, 5, 21, 5, 7, 162, 0, 29, 21, 4, 43, 21, 5, 46, 178, 0, 29, 29, 21, 5, 96, 7, 112, 46]
abbrev dktX1_g_3 : List UInt8 := dkwX1_g_3 ++ dktX1_g_4
def dkwX1_g_2 : List UInt8 := [178, 0, 26, 26, 16, 24, 124, 46, 79, 76, 3, 61, 3, 62, 29, 7, 162, 0, 57, 3, 54, 4, 3]
abbrev dktX1_g_2 : List UInt8 := dkwX1_g_2 ++ dktX1_g_3
def dkwX1_g_1 : List UInt8 := [17, 0, 255, 126, 46, 79, 89, 5, 178, 0, 23, 26, 16, 16, 124, 17, 0, 255, 126, 46, 79, 89, 6]
abbrev dktX1_g_1 : List UInt8 := dkwX1_g_1 ++ dktX1_g_2
def dkwX1_g_0 : List UInt8 := [7, 188, 10, 89, 3, 178, 0, 23, 26, 17, 0, 255, 126, 46, 79, 89, 4, 178, 0, 26, 26, 16, 8, 124]
abbrev dktX1_g_0 : List UInt8 := dkwX1_g_0 ++ dktX1_g_1
theorem dksX1_g_0 : cX1_g.data.toList.drop 0 = dktX1_g_0 := by decide +kernel
theorem dksX1_g_1 : cX1_g.data.toList.drop 24 = dktX1_g_1 := dk_seg dksX1_g_0 24 rfl rfl
theorem dksX1_g_2 : cX1_g.data.toList.drop 47 = dktX1_g_2 := dk_seg dksX1_g_1 23 rfl rfl
theorem dksX1_g_3 : cX1_g.data.toList.drop 70 = dktX1_g_3 := dk_seg dksX1_g_2 23 rfl rfl
theorem dksX1_g_4 : cX1_g.data.toList.drop 94 = dktX1_g_4 := dk_seg dksX1_g_3 24 rfl rfl
theorem dksX1_g_5 : cX1_g.data.toList.drop 117 = dktX1_g_5 := dk_seg dksX1_g_4 23 rfl rfl
theorem dX1_g_0 : decode cX1_g 0 = .ok (.iconst 4, 1) := dk_7 (dk_at dksX1_g_0 0 rfl rfl)
theorem dX1_g_1 : decode cX1_g 1 = .ok (.newarray .int, 2) := dk_188_10 (dk_at dksX1_g_0 1 rfl rfl)
theorem dX1_g_3 : decode cX1_g 3 = .ok (.dup, 1) := dk_89 (dk_at dksX1_g_0 3 rfl rfl)
theorem dX1_g_4 : decode cX1_g 4 = .ok (.iconst 0, 1) := dk_3 (dk_at dksX1_g_0 4 rfl rfl)
theorem dX1_g_5 : decode cX1_g 5 = .ok (.getstatic 23, 3) := dk_178 0 23 (dk_at dksX1_g_0 5 rfl rfl)
theorem dX1_g_8 : decode cX1_g 8 = .ok (.iload_n 0, 1) := dk_26 (dk_at dksX1_g_0 8 rfl rfl)
theorem dX1_g_9 : decode cX1_g 9 = .ok (.sipush 255, 3) := dk_17 0 255 (dk_at dksX1_g_0 9 rfl rfl)
theorem dX1_g_12 : decode cX1_g 12 = .ok (.iand, 1) := dk_126 (dk_at dksX1_g_0 12 rfl rfl)
theorem dX1_g_13 : decode cX1_g 13 = .ok (.iaload, 1) := dk_46 (dk_at dksX1_g_0 13 rfl rfl)
theorem dX1_g_14 : decode cX1_g 14 = .ok (.iastore, 1) := dk_79 (dk_at dksX1_g_0 14 rfl rfl)
theorem dX1_g_15 : decode cX1_g 15 = .ok (.dup, 1) := dk_89 (dk_at dksX1_g_0 15 rfl rfl)
theorem dX1_g_16 : decode cX1_g 16 = .ok (.iconst 1, 1) := dk_4 (dk_at dksX1_g_0 16 rfl rfl)
theorem dX1_g_17 : decode cX1_g 17 = .ok (.getstatic 26, 3) := dk_178 0 26 (dk_at dksX1_g_0 17 rfl rfl)
theorem dX1_g_20 : decode cX1_g 20 = .ok (.iload_n 0, 1) := dk_26 (dk_at dksX1_g_0 20 rfl rfl)
theorem dX1_g_21 : decode cX1_g 21 = .ok (.bipush 8, 2) := dk_16 8 (dk_at dksX1_g_0 21 rfl rfl)
theorem dX1_g_23 : decode cX1_g 23 = .ok (.iushr, 1) := dk_124 (dk_at dksX1_g_0 23 rfl rfl)
theorem dX1_g_24 : decode cX1_g 24 = .ok (.sipush 255, 3) := dk_17 0 255 (dk_at dksX1_g_1 0 rfl rfl)
theorem dX1_g_27 : decode cX1_g 27 = .ok (.iand, 1) := dk_126 (dk_at dksX1_g_1 3 rfl rfl)
theorem dX1_g_28 : decode cX1_g 28 = .ok (.iaload, 1) := dk_46 (dk_at dksX1_g_1 4 rfl rfl)
theorem dX1_g_29 : decode cX1_g 29 = .ok (.iastore, 1) := dk_79 (dk_at dksX1_g_1 5 rfl rfl)
theorem dX1_g_30 : decode cX1_g 30 = .ok (.dup, 1) := dk_89 (dk_at dksX1_g_1 6 rfl rfl)
theorem dX1_g_31 : decode cX1_g 31 = .ok (.iconst 2, 1) := dk_5 (dk_at dksX1_g_1 7 rfl rfl)
theorem dX1_g_32 : decode cX1_g 32 = .ok (.getstatic 23, 3) := dk_178 0 23 (dk_at dksX1_g_1 8 rfl rfl)
theorem dX1_g_35 : decode cX1_g 35 = .ok (.iload_n 0, 1) := dk_26 (dk_at dksX1_g_1 11 rfl rfl)
theorem dX1_g_36 : decode cX1_g 36 = .ok (.bipush 16, 2) := dk_16 16 (dk_at dksX1_g_1 12 rfl rfl)
theorem dX1_g_38 : decode cX1_g 38 = .ok (.iushr, 1) := dk_124 (dk_at dksX1_g_1 14 rfl rfl)
theorem dX1_g_39 : decode cX1_g 39 = .ok (.sipush 255, 3) := dk_17 0 255 (dk_at dksX1_g_1 15 rfl rfl)
theorem dX1_g_42 : decode cX1_g 42 = .ok (.iand, 1) := dk_126 (dk_at dksX1_g_1 18 rfl rfl)
theorem dX1_g_43 : decode cX1_g 43 = .ok (.iaload, 1) := dk_46 (dk_at dksX1_g_1 19 rfl rfl)
theorem dX1_g_44 : decode cX1_g 44 = .ok (.iastore, 1) := dk_79 (dk_at dksX1_g_1 20 rfl rfl)
theorem dX1_g_45 : decode cX1_g 45 = .ok (.dup, 1) := dk_89 (dk_at dksX1_g_1 21 rfl rfl)
theorem dX1_g_46 : decode cX1_g 46 = .ok (.iconst 3, 1) := dk_6 (dk_at dksX1_g_1 22 rfl rfl)
theorem dX1_g_47 : decode cX1_g 47 = .ok (.getstatic 26, 3) := dk_178 0 26 (dk_at dksX1_g_2 0 rfl rfl)
theorem dX1_g_50 : decode cX1_g 50 = .ok (.iload_n 0, 1) := dk_26 (dk_at dksX1_g_2 3 rfl rfl)
theorem dX1_g_51 : decode cX1_g 51 = .ok (.bipush 24, 2) := dk_16 24 (dk_at dksX1_g_2 4 rfl rfl)
theorem dX1_g_53 : decode cX1_g 53 = .ok (.iushr, 1) := dk_124 (dk_at dksX1_g_2 6 rfl rfl)
theorem dX1_g_54 : decode cX1_g 54 = .ok (.iaload, 1) := dk_46 (dk_at dksX1_g_2 7 rfl rfl)
theorem dX1_g_55 : decode cX1_g 55 = .ok (.iastore, 1) := dk_79 (dk_at dksX1_g_2 8 rfl rfl)
theorem dX1_g_56 : decode cX1_g 56 = .ok (.astore_n 1, 1) := dk_76 (dk_at dksX1_g_2 9 rfl rfl)
theorem dX1_g_57 : decode cX1_g 57 = .ok (.iconst 0, 1) := dk_3 (dk_at dksX1_g_2 10 rfl rfl)
theorem dX1_g_58 : decode cX1_g 58 = .ok (.istore_n 2, 1) := dk_61 (dk_at dksX1_g_2 11 rfl rfl)
theorem dX1_g_59 : decode cX1_g 59 = .ok (.iconst 0, 1) := dk_3 (dk_at dksX1_g_2 12 rfl rfl)
theorem dX1_g_60 : decode cX1_g 60 = .ok (.istore_n 3, 1) := dk_62 (dk_at dksX1_g_2 13 rfl rfl)
theorem dX1_g_61 : decode cX1_g 61 = .ok (.iload_n 3, 1) := dk_29 (dk_at dksX1_g_2 14 rfl rfl)
theorem dX1_g_62 : decode cX1_g 62 = .ok (.iconst 4, 1) := dk_7 (dk_at dksX1_g_2 15 rfl rfl)
theorem dX1_g_63 : decode cX1_g 63 = .ok (.if_icmp .ge 57, 3) := dk_162 0 57 (dk_at dksX1_g_2 16 rfl rfl)
theorem dX1_g_66 : decode cX1_g 66 = .ok (.iconst 0, 1) := dk_3 (dk_at dksX1_g_2 19 rfl rfl)
theorem dX1_g_67 : decode cX1_g 67 = .ok (.istore 4, 2) := dk_54 4 (dk_at dksX1_g_2 20 rfl rfl)
theorem dX1_g_69 : decode cX1_g 69 = .ok (.iconst 0, 1) := dk_3 (dk_at dksX1_g_2 22 rfl rfl)
theorem dX1_g_70 : decode cX1_g 70 = .ok (.istore 5, 2) := dk_54 5 (dk_at dksX1_g_3 0 rfl rfl)
theorem dX1_g_72 : decode cX1_g 72 = .ok (.iload 5, 2) := dk_21 5 (dk_at dksX1_g_3 2 rfl rfl)
theorem dX1_g_74 : decode cX1_g 74 = .ok (.iconst 4, 1) := dk_7 (dk_at dksX1_g_3 4 rfl rfl)
theorem dX1_g_75 : decode cX1_g 75 = .ok (.if_icmp .ge 29, 3) := dk_162 0 29 (dk_at dksX1_g_3 5 rfl rfl)
theorem dX1_g_78 : decode cX1_g 78 = .ok (.iload 4, 2) := dk_21 4 (dk_at dksX1_g_3 8 rfl rfl)
theorem dX1_g_80 : decode cX1_g 80 = .ok (.aload_n 1, 1) := dk_43 (dk_at dksX1_g_3 10 rfl rfl)
theorem dX1_g_81 : decode cX1_g 81 = .ok (.iload 5, 2) := dk_21 5 (dk_at dksX1_g_3 11 rfl rfl)
theorem dX1_g_83 : decode cX1_g 83 = .ok (.iaload, 1) := dk_46 (dk_at dksX1_g_3 13 rfl rfl)
theorem dX1_g_84 : decode cX1_g 84 = .ok (.getstatic 29, 3) := dk_178 0 29 (dk_at dksX1_g_3 14 rfl rfl)
theorem dX1_g_87 : decode cX1_g 87 = .ok (.iload_n 3, 1) := dk_29 (dk_at dksX1_g_3 17 rfl rfl)
theorem dX1_g_88 : decode cX1_g 88 = .ok (.iload 5, 2) := dk_21 5 (dk_at dksX1_g_3 18 rfl rfl)
theorem dX1_g_90 : decode cX1_g 90 = .ok (.iadd, 1) := dk_96 (dk_at dksX1_g_3 20 rfl rfl)
theorem dX1_g_91 : decode cX1_g 91 = .ok (.iconst 4, 1) := dk_7 (dk_at dksX1_g_3 21 rfl rfl)
theorem dX1_g_92 : decode cX1_g 92 = .ok (.irem, 1) := dk_112 (dk_at dksX1_g_3 22 rfl rfl)
theorem dX1_g_93 : decode cX1_g 93 = .ok (.iaload, 1) := dk_46 (dk_at dksX1_g_3 23 rfl rfl)
theorem dX1_g_94 : decode cX1_g 94 = .ok (.iand, 1) := dk_126 (dk_at dksX1_g_4 0 rfl rfl)
theorem dX1_g_95 : decode cX1_g 95 = .ok (.ixor, 1) := dk_130 (dk_at dksX1_g_4 1 rfl rfl)
theorem dX1_g_96 : decode cX1_g 96 = .ok (.istore 4, 2) := dk_54 4 (dk_at dksX1_g_4 2 rfl rfl)
theorem dX1_g_98 : decode cX1_g 98 = .ok (.iinc 5 1, 3) := dk_132 5 1 (dk_at dksX1_g_4 4 rfl rfl)
theorem dX1_g_101 : decode cX1_g 101 = .ok (.goto (-29), 3) := dk_167 255 227 (dk_at dksX1_g_4 7 rfl rfl)
theorem dX1_g_104 : decode cX1_g 104 = .ok (.iload_n 2, 1) := dk_28 (dk_at dksX1_g_4 10 rfl rfl)
theorem dX1_g_105 : decode cX1_g 105 = .ok (.iload 4, 2) := dk_21 4 (dk_at dksX1_g_4 11 rfl rfl)
theorem dX1_g_107 : decode cX1_g 107 = .ok (.bipush 8, 2) := dk_16 8 (dk_at dksX1_g_4 13 rfl rfl)
theorem dX1_g_109 : decode cX1_g 109 = .ok (.iload_n 3, 1) := dk_29 (dk_at dksX1_g_4 15 rfl rfl)
theorem dX1_g_110 : decode cX1_g 110 = .ok (.imul, 1) := dk_104 (dk_at dksX1_g_4 16 rfl rfl)
theorem dX1_g_111 : decode cX1_g 111 = .ok (.ishl, 1) := dk_120 (dk_at dksX1_g_4 17 rfl rfl)
theorem dX1_g_112 : decode cX1_g 112 = .ok (.ior, 1) := dk_128 (dk_at dksX1_g_4 18 rfl rfl)
theorem dX1_g_113 : decode cX1_g 113 = .ok (.istore_n 2, 1) := dk_61 (dk_at dksX1_g_4 19 rfl rfl)
theorem dX1_g_114 : decode cX1_g 114 = .ok (.iinc 3 1, 3) := dk_132 3 1 (dk_at dksX1_g_4 20 rfl rfl)
theorem dX1_g_117 : decode cX1_g 117 = .ok (.goto (-56), 3) := dk_167 255 200 (dk_at dksX1_g_5 0 rfl rfl)
theorem dX1_g_120 : decode cX1_g 120 = .ok (.iload_n 2, 1) := dk_28 (dk_at dksX1_g_5 3 rfl rfl)
theorem dX1_g_121 : decode cX1_g 121 = .ok (.ireturn, 1) := dk_172 (dk_at dksX1_g_5 4 rfl rfl)
abbrev cX1_open : ByteArray := prog_10_method_10_code
def yX1_open : MethodName := ⟨RX1, "open", "(I)V"⟩
def dkwX1_open_0 : List UInt8 := [42, 3, 182, 0, 45, 177]
abbrev dktX1_open_0 : List UInt8 := dkwX1_open_0 ++ []
theorem dksX1_open_0 : cX1_open.data.toList.drop 0 = dktX1_open_0 := by decide +kernel
theorem dX1_open_0 : decode cX1_open 0 = .ok (.aload_n 0, 1) := dk_42 (dk_at dksX1_open_0 0 rfl rfl)
theorem dX1_open_1 : decode cX1_open 1 = .ok (.iconst 0, 1) := dk_3 (dk_at dksX1_open_0 1 rfl rfl)
theorem dX1_open_2 : decode cX1_open 2 = .ok (.invokevirtual 45, 3) := dk_182 0 45 (dk_at dksX1_open_0 2 rfl rfl)
theorem dX1_open_5 : decode cX1_open 5 = .ok (.return_, 1) := dk_177 (dk_at dksX1_open_0 5 rfl rfl)
abbrev cX1_again : ByteArray := prog_10_method_11_code
def yX1_again : MethodName := ⟨RX1, "again", "()V"⟩
def dkwX1_again_1 : List UInt8 := [167, 255, 235, 177]
abbrev dktX1_again_1 : List UInt8 := dkwX1_again_1 ++ []
def dkwX1_again_0 : List UInt8 := [3, 60, 27, 16, 16, 162, 0, 21, 42, 180, 0, 13, 27, 42, 180, 0, 16, 27, 46, 79, 132, 1, 1]
abbrev dktX1_again_0 : List UInt8 := dkwX1_again_0 ++ dktX1_again_1
theorem dksX1_again_0 : cX1_again.data.toList.drop 0 = dktX1_again_0 := by decide +kernel
theorem dksX1_again_1 : cX1_again.data.toList.drop 23 = dktX1_again_1 := dk_seg dksX1_again_0 23 rfl rfl
theorem dX1_again_0 : decode cX1_again 0 = .ok (.iconst 0, 1) := dk_3 (dk_at dksX1_again_0 0 rfl rfl)
theorem dX1_again_1 : decode cX1_again 1 = .ok (.istore_n 1, 1) := dk_60 (dk_at dksX1_again_0 1 rfl rfl)
theorem dX1_again_2 : decode cX1_again 2 = .ok (.iload_n 1, 1) := dk_27 (dk_at dksX1_again_0 2 rfl rfl)
theorem dX1_again_3 : decode cX1_again 3 = .ok (.bipush 16, 2) := dk_16 16 (dk_at dksX1_again_0 3 rfl rfl)
theorem dX1_again_5 : decode cX1_again 5 = .ok (.if_icmp .ge 21, 3) := dk_162 0 21 (dk_at dksX1_again_0 5 rfl rfl)
theorem dX1_again_8 : decode cX1_again 8 = .ok (.aload_n 0, 1) := dk_42 (dk_at dksX1_again_0 8 rfl rfl)
theorem dX1_again_9 : decode cX1_again 9 = .ok (.getfield 13, 3) := dk_180 0 13 (dk_at dksX1_again_0 9 rfl rfl)
theorem dX1_again_12 : decode cX1_again 12 = .ok (.iload_n 1, 1) := dk_27 (dk_at dksX1_again_0 12 rfl rfl)
theorem dX1_again_13 : decode cX1_again 13 = .ok (.aload_n 0, 1) := dk_42 (dk_at dksX1_again_0 13 rfl rfl)
theorem dX1_again_14 : decode cX1_again 14 = .ok (.getfield 16, 3) := dk_180 0 16 (dk_at dksX1_again_0 14 rfl rfl)
theorem dX1_again_17 : decode cX1_again 17 = .ok (.iload_n 1, 1) := dk_27 (dk_at dksX1_again_0 17 rfl rfl)
theorem dX1_again_18 : decode cX1_again 18 = .ok (.iaload, 1) := dk_46 (dk_at dksX1_again_0 18 rfl rfl)
theorem dX1_again_19 : decode cX1_again 19 = .ok (.iastore, 1) := dk_79 (dk_at dksX1_again_0 19 rfl rfl)
theorem dX1_again_20 : decode cX1_again 20 = .ok (.iinc 1 1, 3) := dk_132 1 1 (dk_at dksX1_again_0 20 rfl rfl)
theorem dX1_again_23 : decode cX1_again 23 = .ok (.goto (-21), 3) := dk_167 255 235 (dk_at dksX1_again_1 0 rfl rfl)
theorem dX1_again_26 : decode cX1_again 26 = .ok (.return_, 1) := dk_177 (dk_at dksX1_again_1 3 rfl rfl)
abbrev cX1_out : ByteArray := prog_10_method_12_code
def yX1_out : MethodName := ⟨RX1, "out", "(I)I"⟩
def dkwX1_out_0 : List UInt8 := [42, 180, 0, 16, 27, 16, 15, 126, 46, 172]
abbrev dktX1_out_0 : List UInt8 := dkwX1_out_0 ++ []
theorem dksX1_out_0 : cX1_out.data.toList.drop 0 = dktX1_out_0 := by decide +kernel
theorem dX1_out_0 : decode cX1_out 0 = .ok (.aload_n 0, 1) := dk_42 (dk_at dksX1_out_0 0 rfl rfl)
theorem dX1_out_1 : decode cX1_out 1 = .ok (.getfield 16, 3) := dk_180 0 16 (dk_at dksX1_out_0 1 rfl rfl)
theorem dX1_out_4 : decode cX1_out 4 = .ok (.iload_n 1, 1) := dk_27 (dk_at dksX1_out_0 4 rfl rfl)
theorem dX1_out_5 : decode cX1_out 5 = .ok (.bipush 15, 2) := dk_16 15 (dk_at dksX1_out_0 5 rfl rfl)
theorem dX1_out_7 : decode cX1_out 7 = .ok (.iand, 1) := dk_126 (dk_at dksX1_out_0 7 rfl rfl)
theorem dX1_out_8 : decode cX1_out 8 = .ok (.iaload, 1) := dk_46 (dk_at dksX1_out_0 8 rfl rfl)
theorem dX1_out_9 : decode cX1_out 9 = .ok (.ireturn, 1) := dk_172 (dk_at dksX1_out_0 9 rfl rfl)
theorem q17 : (Jvm.Cond.initialized "SeedDeskModel") ∈ lw_all := lw_g (lw_at lw_m1 2 rfl) rfl
theorem q319 : (Jvm.Cond.instantiable "SeedDeskModel" (3 : Nat)) ∈ lw_all := lw_g (lw_at lw_m2 64 rfl) rfl
theorem q321 : (Jvm.Cond.instanceMethod ({ cls := "SeedDeskModel", name := "<init>", desc := "()V" } : Jvm.MethodName)) ∈ lw_all := lw_g (lw_at lw_m2 66 rfl) rfl
theorem q322 : (Jvm.Cond.code ({ cls := "SeedDeskModel", name := "<init>", desc := "()V" } : Jvm.MethodName) prog_10_method_1_code (1 : Nat) (Option.none : Option Jvm.ClassFile.FieldType)) ∈ lw_all := lw_g (lw_at lw_m2 67 rfl) rfl
theorem q323 : (Jvm.Cond.methodLink "SeedDeskModel" (1 : Nat) ({ cls := "java/lang/Object", name := "<init>", desc := "()V" } : Jvm.MethodName)) ∈ lw_all := lw_g (lw_at lw_m2 68 rfl) rfl
theorem q324 : (Jvm.Cond.fieldLink "SeedDeskModel" (7 : Nat) "SeedDeskModel" "key" "[I") ∈ lw_all := lw_g (lw_at lw_m2 69 rfl) rfl
theorem q325 : (Jvm.Cond.fieldLink "SeedDeskModel" (13 : Nat) "SeedDeskModel" "block" "[I") ∈ lw_all := lw_g (lw_at lw_m2 70 rfl) rfl
theorem q326 : (Jvm.Cond.fieldLink "SeedDeskModel" (16 : Nat) "SeedDeskModel" "out" "[I") ∈ lw_all := lw_g (lw_at lw_m2 71 rfl) rfl
theorem q327 : (Jvm.Cond.laysFinal "SeedDeskModel" "SeedDeskModel" "key" "[I") ∈ lw_all := lw_g (lw_at lw_m2 72 rfl) rfl
theorem q328 : (Jvm.Cond.soleField "SeedDeskModel" "key") ∈ lw_all := lw_g (lw_at lw_m2 73 rfl) rfl
theorem q329 : (Jvm.Cond.laysFinal "SeedDeskModel" "SeedDeskModel" "block" "[I") ∈ lw_all := lw_g (lw_at lw_m2 74 rfl) rfl
theorem q330 : (Jvm.Cond.soleField "SeedDeskModel" "block") ∈ lw_all := lw_g (lw_at lw_m2 75 rfl) rfl
theorem q331 : (Jvm.Cond.laysFinal "SeedDeskModel" "SeedDeskModel" "out" "[I") ∈ lw_all := lw_g (lw_at lw_m2 76 rfl) rfl
theorem q332 : (Jvm.Cond.soleField "SeedDeskModel" "out") ∈ lw_all := lw_g (lw_at lw_m2 77 rfl) rfl
theorem q333 : (Jvm.Cond.superclass "SeedDeskModel" "java/lang/Object") ∈ lw_all := lw_g (lw_at lw_m2 78 rfl) rfl
theorem q335 : (Jvm.Cond.instanceMethod ({ cls := "SeedDeskModel", name := "key", desc := "(IIIII)V" } : Jvm.MethodName)) ∈ lw_all := lw_g (lw_at lw_m2 80 rfl) rfl
theorem q336 : (Jvm.Cond.selects "SeedDeskModel" ({ cls := "SeedDeskModel", name := "key", desc := "(IIIII)V" } : Jvm.MethodName) ({ cls := "SeedDeskModel", name := "key", desc := "(IIIII)V" } : Jvm.MethodName)) ∈ lw_all := lw_g (lw_at lw_m2 81 rfl) rfl
theorem q337 : (Jvm.Cond.code ({ cls := "SeedDeskModel", name := "key", desc := "(IIIII)V" } : Jvm.MethodName) prog_10_method_3_code (7 : Nat) (Option.none : Option Jvm.ClassFile.FieldType)) ∈ lw_all := lw_g (lw_at lw_m2 82 rfl) rfl
theorem q338 : (Jvm.Cond.methodLink "SeedDeskModel" (19 : Nat) ({ cls := "SeedDeskModel", name := "word", desc := "([III)V" } : Jvm.MethodName)) ∈ lw_all := lw_g (lw_at lw_m2 83 rfl) rfl
theorem q339 : (Jvm.Cond.static ({ cls := "SeedDeskModel", name := "word", desc := "([III)V" } : Jvm.MethodName)) ∈ lw_all := lw_g (lw_at lw_m2 84 rfl) rfl
theorem q340 : (Jvm.Cond.code ({ cls := "SeedDeskModel", name := "word", desc := "([III)V" } : Jvm.MethodName) prog_10_method_2_code (4 : Nat) (Option.none : Option Jvm.ClassFile.FieldType)) ∈ lw_all := lw_g (lw_at lw_m2 85 rfl) rfl
theorem q342 : (Jvm.Cond.instanceMethod ({ cls := "SeedDeskModel", name := "block", desc := "(IIII)V" } : Jvm.MethodName)) ∈ lw_all := lw_g (lw_at lw_m2 87 rfl) rfl
theorem q343 : (Jvm.Cond.selects "SeedDeskModel" ({ cls := "SeedDeskModel", name := "block", desc := "(IIII)V" } : Jvm.MethodName) ({ cls := "SeedDeskModel", name := "block", desc := "(IIII)V" } : Jvm.MethodName)) ∈ lw_all := lw_g (lw_at lw_m2 88 rfl) rfl
theorem q344 : (Jvm.Cond.code ({ cls := "SeedDeskModel", name := "block", desc := "(IIII)V" } : Jvm.MethodName) prog_10_method_4_code (5 : Nat) (Option.none : Option Jvm.ClassFile.FieldType)) ∈ lw_all := lw_g (lw_at lw_m2 89 rfl) rfl
theorem q346 : (Jvm.Cond.instanceMethod ({ cls := "SeedDeskModel", name := "lock", desc := "(I)V" } : Jvm.MethodName)) ∈ lw_all := lw_g (lw_at lw_m2 91 rfl) rfl
theorem q347 : (Jvm.Cond.selects "SeedDeskModel" ({ cls := "SeedDeskModel", name := "lock", desc := "(I)V" } : Jvm.MethodName) ({ cls := "SeedDeskModel", name := "lock", desc := "(I)V" } : Jvm.MethodName)) ∈ lw_all := lw_g (lw_at lw_m2 92 rfl) rfl
theorem q348 : (Jvm.Cond.code ({ cls := "SeedDeskModel", name := "lock", desc := "(I)V" } : Jvm.MethodName) prog_10_method_9_code (2 : Nat) (Option.none : Option Jvm.ClassFile.FieldType)) ∈ lw_all := lw_g (lw_at lw_m2 93 rfl) rfl
theorem q349 : (Jvm.Cond.methodLink "SeedDeskModel" (45 : Nat) ({ cls := "SeedDeskModel", name := "run", desc := "(Z)V" } : Jvm.MethodName)) ∈ lw_all := lw_g (lw_at lw_m2 94 rfl) rfl
theorem q350 : (Jvm.Cond.privateMethod ({ cls := "SeedDeskModel", name := "run", desc := "(Z)V" } : Jvm.MethodName)) ∈ lw_tbl := lw_at lw_m2 95 rfl
theorem q351 : (Jvm.Cond.instanceMethod ({ cls := "SeedDeskModel", name := "run", desc := "(Z)V" } : Jvm.MethodName)) ∈ lw_all := lw_g (lw_at lw_m2 96 rfl) rfl
theorem q352 : (Jvm.Cond.code ({ cls := "SeedDeskModel", name := "run", desc := "(Z)V" } : Jvm.MethodName) prog_10_method_8_code (10 : Nat) (Option.none : Option Jvm.ClassFile.FieldType)) ∈ lw_all := lw_g (lw_at lw_m2 97 rfl) rfl
theorem q353 : (Jvm.Cond.methodLink "SeedDeskModel" (41 : Nat) ({ cls := "SeedDeskModel", name := "rounds", desc := "()[I" } : Jvm.MethodName)) ∈ lw_all := lw_g (lw_at lw_m2 98 rfl) rfl
theorem q354 : (Jvm.Cond.privateMethod ({ cls := "SeedDeskModel", name := "rounds", desc := "()[I" } : Jvm.MethodName)) ∈ lw_tbl := lw_at lw_m2 99 rfl
theorem q355 : (Jvm.Cond.instanceMethod ({ cls := "SeedDeskModel", name := "rounds", desc := "()[I" } : Jvm.MethodName)) ∈ lw_all := lw_g (lw_at lw_m2 100 rfl) rfl
theorem q356 : (Jvm.Cond.code ({ cls := "SeedDeskModel", name := "rounds", desc := "()[I" } : Jvm.MethodName) prog_10_method_7_code (9 : Nat) (Option.some (Jvm.ClassFile.FieldType.array Jvm.ClassFile.FieldType.int))) ∈ lw_all := lw_g (lw_at lw_m2 101 rfl) rfl
theorem q357 : (Jvm.Cond.methodLink "SeedDeskModel" (32 : Nat) ({ cls := "SeedDeskModel", name := "four", desc := "([II)I" } : Jvm.MethodName)) ∈ lw_all := lw_g (lw_at lw_m2 102 rfl) rfl
theorem q358 : (Jvm.Cond.static ({ cls := "SeedDeskModel", name := "four", desc := "([II)I" } : Jvm.MethodName)) ∈ lw_all := lw_g (lw_at lw_m2 103 rfl) rfl
theorem q359 : (Jvm.Cond.code ({ cls := "SeedDeskModel", name := "four", desc := "([II)I" } : Jvm.MethodName) prog_10_method_6_code (2 : Nat) (Option.some Jvm.ClassFile.FieldType.int)) ∈ lw_all := lw_g (lw_at lw_m2 104 rfl) rfl
theorem q360 : (Jvm.Cond.constant "SeedDeskModel" (36 : Nat) (-1640531527 : Int32)) ∈ lw_all := lw_g (lw_at lw_m2 105 rfl) rfl
theorem q361 : (Jvm.Cond.methodLink "SeedDeskModel" (37 : Nat) ({ cls := "SeedDeskModel", name := "g", desc := "(I)I" } : Jvm.MethodName)) ∈ lw_all := lw_g (lw_at lw_m2 106 rfl) rfl
theorem q362 : (Jvm.Cond.static ({ cls := "SeedDeskModel", name := "g", desc := "(I)I" } : Jvm.MethodName)) ∈ lw_all := lw_g (lw_at lw_m2 107 rfl) rfl
theorem q363 : (Jvm.Cond.code ({ cls := "SeedDeskModel", name := "g", desc := "(I)I" } : Jvm.MethodName) prog_10_method_5_code (6 : Nat) (Option.some Jvm.ClassFile.FieldType.int)) ∈ lw_all := lw_g (lw_at lw_m2 108 rfl) rfl
theorem q364 : (Jvm.Cond.fieldLink "SeedDeskModel" (23 : Nat) "SeedDeskModel" "FIRST" "[I") ∈ lw_all := lw_g (lw_at lw_m2 109 rfl) rfl
theorem q365 : (Jvm.Cond.laysStatic "SeedDeskModel" "FIRST" "[I") ∈ lw_tbl := lw_at lw_m2 110 rfl
theorem q366 : (Jvm.Cond.fieldLink "SeedDeskModel" (26 : Nat) "SeedDeskModel" "SECOND" "[I") ∈ lw_all := lw_g (lw_at lw_m2 111 rfl) rfl
theorem q367 : (Jvm.Cond.laysStatic "SeedDeskModel" "SECOND" "[I") ∈ lw_tbl := lw_at lw_m2 112 rfl
theorem q368 : (Jvm.Cond.fieldLink "SeedDeskModel" (29 : Nat) "SeedDeskModel" "MASKS" "[I") ∈ lw_all := lw_g (lw_at lw_m2 113 rfl) rfl
theorem q369 : (Jvm.Cond.laysStatic "SeedDeskModel" "MASKS" "[I") ∈ lw_tbl := lw_at lw_m2 114 rfl
theorem q371 : (Jvm.Cond.instanceMethod ({ cls := "SeedDeskModel", name := "open", desc := "(I)V" } : Jvm.MethodName)) ∈ lw_all := lw_g (lw_at lw_m2 116 rfl) rfl
theorem q372 : (Jvm.Cond.selects "SeedDeskModel" ({ cls := "SeedDeskModel", name := "open", desc := "(I)V" } : Jvm.MethodName) ({ cls := "SeedDeskModel", name := "open", desc := "(I)V" } : Jvm.MethodName)) ∈ lw_all := lw_g (lw_at lw_m2 117 rfl) rfl
theorem q373 : (Jvm.Cond.code ({ cls := "SeedDeskModel", name := "open", desc := "(I)V" } : Jvm.MethodName) prog_10_method_10_code (2 : Nat) (Option.none : Option Jvm.ClassFile.FieldType)) ∈ lw_all := lw_g (lw_at lw_m2 118 rfl) rfl
theorem q375 : (Jvm.Cond.instanceMethod ({ cls := "SeedDeskModel", name := "again", desc := "()V" } : Jvm.MethodName)) ∈ lw_all := lw_g (lw_at lw_m2 120 rfl) rfl
theorem q376 : (Jvm.Cond.selects "SeedDeskModel" ({ cls := "SeedDeskModel", name := "again", desc := "()V" } : Jvm.MethodName) ({ cls := "SeedDeskModel", name := "again", desc := "()V" } : Jvm.MethodName)) ∈ lw_all := lw_g (lw_at lw_m2 121 rfl) rfl
theorem q377 : (Jvm.Cond.code ({ cls := "SeedDeskModel", name := "again", desc := "()V" } : Jvm.MethodName) prog_10_method_11_code (2 : Nat) (Option.none : Option Jvm.ClassFile.FieldType)) ∈ lw_all := lw_g (lw_at lw_m2 122 rfl) rfl
theorem q379 : (Jvm.Cond.instanceMethod ({ cls := "SeedDeskModel", name := "out", desc := "(I)I" } : Jvm.MethodName)) ∈ lw_all := lw_g (lw_at lw_m2 124 rfl) rfl
theorem q380 : (Jvm.Cond.selects "SeedDeskModel" ({ cls := "SeedDeskModel", name := "out", desc := "(I)I" } : Jvm.MethodName) ({ cls := "SeedDeskModel", name := "out", desc := "(I)I" } : Jvm.MethodName)) ∈ lw_all := lw_g (lw_at lw_m2 125 rfl) rfl
theorem q381 : (Jvm.Cond.code ({ cls := "SeedDeskModel", name := "out", desc := "(I)I" } : Jvm.MethodName) prog_10_method_12_code (2 : Nat) (Option.some Jvm.ClassFile.FieldType.int)) ∈ lw_all := lw_g (lw_at lw_m2 126 rfl) rfl
theorem in_X1 : ∀ w ∈ wsX10, w ∈ lw_all := lw_in wsX10 [327, 329, 331] (by decide +kernel) (by decide +kernel)

/-! SEEDEngine -/
set_option maxRecDepth 100000
def RX2 : String := "SEEDEngine"
def TX2 : u_T := fun k => match k with
  | 0 => ("SEEDEngine", "BLOCK_SIZE", "I", true)
  | 1 => ("SEEDEngine", "wKey", "[I", false)
  | _ => ("SEEDEngine", "forEncryption", "Z", false)
def tyX2 : Nat → FieldType := fun k => match k with
  | 0 => .int
  | 1 => .array .int
  | _ => .boolean
abbrev wsX20 : List Cond := u_ws RX2 TX2 3
theorem nmX2 : ∀ a, a < 3 → ∀ b, b < 3 → a ≠ b → (TX2 a).2.1 ≠ (TX2 b).2.1 := by decide +kernel
theorem tyX2_ok : ∀ k, k < 3 → parseFieldDescriptor (TX2 k).2.2.1 = some (tyX2 k) := by decide +kernel
abbrev cX2_init : ByteArray := prog_7_method_1_code
def yX2_init : MethodName := ⟨RX2, "<init>", "()V"⟩
def dkwX2_init_0 : List UInt8 := [42, 183, 0, 1, 42, 16, 16, 181, 0, 7, 177]
abbrev dktX2_init_0 : List UInt8 := dkwX2_init_0 ++ []
theorem dksX2_init_0 : cX2_init.data.toList.drop 0 = dktX2_init_0 := by decide +kernel
theorem dX2_init_0 : decode cX2_init 0 = .ok (.aload_n 0, 1) := dk_42 (dk_at dksX2_init_0 0 rfl rfl)
theorem dX2_init_1 : decode cX2_init 1 = .ok (.invokespecial 1, 3) := dk_183 0 1 (dk_at dksX2_init_0 1 rfl rfl)
theorem dX2_init_4 : decode cX2_init 4 = .ok (.aload_n 0, 1) := dk_42 (dk_at dksX2_init_0 4 rfl rfl)
theorem dX2_init_5 : decode cX2_init 5 = .ok (.bipush 16, 2) := dk_16 16 (dk_at dksX2_init_0 5 rfl rfl)
theorem dX2_init_7 : decode cX2_init 7 = .ok (.putfield 7, 3) := dk_181 0 7 (dk_at dksX2_init_0 7 rfl rfl)
theorem dX2_init_10 : decode cX2_init 10 = .ok (.return_, 1) := dk_177 (dk_at dksX2_init_0 10 rfl rfl)
abbrev cX2_init_2 : ByteArray := prog_7_method_2_code
def yX2_init_2 : MethodName := ⟨RX2, "init", "(ZLCipherParameters;)V"⟩
def dkwX2_init_2_0 : List UInt8 := [42, 27, 181, 0, 13, 42, 42, 44, 192, 0, 17, 182, 0, 19, 182, 0, 23, 181, 0, 27, 177]
abbrev dktX2_init_2_0 : List UInt8 := dkwX2_init_2_0 ++ []
theorem dksX2_init_2_0 : cX2_init_2.data.toList.drop 0 = dktX2_init_2_0 := by decide +kernel
theorem dX2_init_2_0 : decode cX2_init_2 0 = .ok (.aload_n 0, 1) := dk_42 (dk_at dksX2_init_2_0 0 rfl rfl)
theorem dX2_init_2_1 : decode cX2_init_2 1 = .ok (.iload_n 1, 1) := dk_27 (dk_at dksX2_init_2_0 1 rfl rfl)
theorem dX2_init_2_2 : decode cX2_init_2 2 = .ok (.putfield 13, 3) := dk_181 0 13 (dk_at dksX2_init_2_0 2 rfl rfl)
theorem dX2_init_2_5 : decode cX2_init_2 5 = .ok (.aload_n 0, 1) := dk_42 (dk_at dksX2_init_2_0 5 rfl rfl)
theorem dX2_init_2_6 : decode cX2_init_2 6 = .ok (.aload_n 0, 1) := dk_42 (dk_at dksX2_init_2_0 6 rfl rfl)
theorem dX2_init_2_7 : decode cX2_init_2 7 = .ok (.aload_n 2, 1) := dk_44 (dk_at dksX2_init_2_0 7 rfl rfl)
theorem dX2_init_2_8 : decode cX2_init_2 8 = .ok (.checkcast 17, 3) := dk_192 0 17 (dk_at dksX2_init_2_0 8 rfl rfl)
theorem dX2_init_2_11 : decode cX2_init_2 11 = .ok (.invokevirtual 19, 3) := dk_182 0 19 (dk_at dksX2_init_2_0 11 rfl rfl)
theorem dX2_init_2_14 : decode cX2_init_2 14 = .ok (.invokevirtual 23, 3) := dk_182 0 23 (dk_at dksX2_init_2_0 14 rfl rfl)
theorem dX2_init_2_17 : decode cX2_init_2 17 = .ok (.putfield 27, 3) := dk_181 0 27 (dk_at dksX2_init_2_0 17 rfl rfl)
theorem dX2_init_2_20 : decode cX2_init_2 20 = .ok (.return_, 1) := dk_177 (dk_at dksX2_init_2_0 20 rfl rfl)
abbrev cX2_createWorkingKey : ByteArray := prog_7_method_4_code
def yX2_createWorkingKey : MethodName := ⟨RX2, "createWorkingKey", "([B)[I"⟩
def dkwX2_createWorkingKey_7 : List UInt8 := [182, 0, 65, 54, 9, 42, 22, 5, 182, 0, 69, 54, 10, 132, 11, 1, 167, 255, 146, 44, 176]
abbrev dktX2_createWorkingKey_7 : List UInt8 := dkwX2_createWorkingKey_7 ++ []
def dkwX2_createWorkingKey_6 : List UInt8 := [54, 7, 42, 33, 182, 0, 69, 54, 8, 167, 0, 27, 42, 22, 5, 182, 0, 83, 55, 5, 42, 22, 5]
abbrev dktX2_createWorkingKey_6 : List UInt8 := dkwX2_createWorkingKey_6 ++ dktX2_createWorkingKey_7
def dkwX2_createWorkingKey_5 : List UInt8 := [96, 182, 0, 75, 79, 21, 11, 5, 112, 154, 0, 26, 42, 33, 182, 0, 79, 66, 42, 33, 182, 0, 65]
abbrev dktX2_createWorkingKey_5 : List UInt8 := dkwX2_createWorkingKey_5 ++ dktX2_createWorkingKey_6
def dkwX2_createWorkingKey_4 : List UInt8 := [100, 182, 0, 75, 79, 44, 5, 21, 11, 104, 4, 96, 42, 21, 8, 21, 10, 100, 178, 0, 72, 21, 11, 46]
abbrev dktX2_createWorkingKey_4 : List UInt8 := dkwX2_createWorkingKey_4 ++ dktX2_createWorkingKey_5
def dkwX2_createWorkingKey_3 : List UInt8 := [21, 11, 16, 16, 162, 0, 109, 44, 5, 21, 11, 104, 42, 21, 7, 21, 9, 96, 178, 0, 72, 21, 11, 46]
abbrev dktX2_createWorkingKey_3 : List UInt8 := dkwX2_createWorkingKey_3 ++ dktX2_createWorkingKey_4
def dkwX2_createWorkingKey_2 : List UInt8 := [182, 0, 69, 54, 8, 42, 22, 5, 182, 0, 65, 54, 9, 42, 22, 5, 182, 0, 69, 54, 10, 3, 54, 11]
abbrev dktX2_createWorkingKey_2 : List UInt8 := dkwX2_createWorkingKey_2 ++ dktX2_createWorkingKey_3
def dkwX2_createWorkingKey_1 : List UInt8 := [3, 182, 0, 48, 66, 42, 43, 16, 8, 182, 0, 48, 55, 5, 42, 33, 182, 0, 65, 54, 7, 42, 33]
abbrev dktX2_createWorkingKey_1 : List UInt8 := dkwX2_createWorkingKey_1 ++ dktX2_createWorkingKey_2
def dkwX2_createWorkingKey_0 : List UInt8 := [43, 190, 16, 16, 159, 0, 13, 187, 0, 60, 89, 18, 62, 183, 0, 64, 191, 16, 32, 188, 10, 77, 42, 43]
abbrev dktX2_createWorkingKey_0 : List UInt8 := dkwX2_createWorkingKey_0 ++ dktX2_createWorkingKey_1
theorem dksX2_createWorkingKey_0 : cX2_createWorkingKey.data.toList.drop 0 = dktX2_createWorkingKey_0 := by decide +kernel
theorem dksX2_createWorkingKey_1 : cX2_createWorkingKey.data.toList.drop 24 = dktX2_createWorkingKey_1 := dk_seg dksX2_createWorkingKey_0 24 rfl rfl
theorem dksX2_createWorkingKey_2 : cX2_createWorkingKey.data.toList.drop 47 = dktX2_createWorkingKey_2 := dk_seg dksX2_createWorkingKey_1 23 rfl rfl
theorem dksX2_createWorkingKey_3 : cX2_createWorkingKey.data.toList.drop 71 = dktX2_createWorkingKey_3 := dk_seg dksX2_createWorkingKey_2 24 rfl rfl
theorem dksX2_createWorkingKey_4 : cX2_createWorkingKey.data.toList.drop 95 = dktX2_createWorkingKey_4 := dk_seg dksX2_createWorkingKey_3 24 rfl rfl
theorem dksX2_createWorkingKey_5 : cX2_createWorkingKey.data.toList.drop 119 = dktX2_createWorkingKey_5 := dk_seg dksX2_createWorkingKey_4 24 rfl rfl
theorem dksX2_createWorkingKey_6 : cX2_createWorkingKey.data.toList.drop 142 = dktX2_createWorkingKey_6 := dk_seg dksX2_createWorkingKey_5 23 rfl rfl
theorem dksX2_createWorkingKey_7 : cX2_createWorkingKey.data.toList.drop 165 = dktX2_createWorkingKey_7 := dk_seg dksX2_createWorkingKey_6 23 rfl rfl
theorem dX2_createWorkingKey_0 : decode cX2_createWorkingKey 0 = .ok (.aload_n 1, 1) := dk_43 (dk_at dksX2_createWorkingKey_0 0 rfl rfl)
theorem dX2_createWorkingKey_1 : decode cX2_createWorkingKey 1 = .ok (.arraylength, 1) := dk_190 (dk_at dksX2_createWorkingKey_0 1 rfl rfl)
theorem dX2_createWorkingKey_2 : decode cX2_createWorkingKey 2 = .ok (.bipush 16, 2) := dk_16 16 (dk_at dksX2_createWorkingKey_0 2 rfl rfl)
theorem dX2_createWorkingKey_4 : decode cX2_createWorkingKey 4 = .ok (.if_icmp .eq 13, 3) := dk_159 0 13 (dk_at dksX2_createWorkingKey_0 4 rfl rfl)
theorem dX2_createWorkingKey_7 : decode cX2_createWorkingKey 7 = .ok (.new 60, 3) := dk_187 0 60 (dk_at dksX2_createWorkingKey_0 7 rfl rfl)
theorem dX2_createWorkingKey_10 : decode cX2_createWorkingKey 10 = .ok (.dup, 1) := dk_89 (dk_at dksX2_createWorkingKey_0 10 rfl rfl)
theorem dX2_createWorkingKey_11 : decode cX2_createWorkingKey 11 = .ok (.ldc 62, 2) := dk_18 62 (dk_at dksX2_createWorkingKey_0 11 rfl rfl)
theorem dX2_createWorkingKey_13 : decode cX2_createWorkingKey 13 = .ok (.invokespecial 64, 3) := dk_183 0 64 (dk_at dksX2_createWorkingKey_0 13 rfl rfl)
theorem dX2_createWorkingKey_16 : decode cX2_createWorkingKey 16 = .ok (.athrow, 1) := dk_191 (dk_at dksX2_createWorkingKey_0 16 rfl rfl)
theorem dX2_createWorkingKey_17 : decode cX2_createWorkingKey 17 = .ok (.bipush 32, 2) := dk_16 32 (dk_at dksX2_createWorkingKey_0 17 rfl rfl)
theorem dX2_createWorkingKey_19 : decode cX2_createWorkingKey 19 = .ok (.newarray .int, 2) := dk_188_10 (dk_at dksX2_createWorkingKey_0 19 rfl rfl)
theorem dX2_createWorkingKey_21 : decode cX2_createWorkingKey 21 = .ok (.astore_n 2, 1) := dk_77 (dk_at dksX2_createWorkingKey_0 21 rfl rfl)
theorem dX2_createWorkingKey_22 : decode cX2_createWorkingKey 22 = .ok (.aload_n 0, 1) := dk_42 (dk_at dksX2_createWorkingKey_0 22 rfl rfl)
theorem dX2_createWorkingKey_23 : decode cX2_createWorkingKey 23 = .ok (.aload_n 1, 1) := dk_43 (dk_at dksX2_createWorkingKey_0 23 rfl rfl)
theorem dX2_createWorkingKey_24 : decode cX2_createWorkingKey 24 = .ok (.iconst 0, 1) := dk_3 (dk_at dksX2_createWorkingKey_1 0 rfl rfl)
theorem dX2_createWorkingKey_25 : decode cX2_createWorkingKey 25 = .ok (.invokevirtual 48, 3) := dk_182 0 48 (dk_at dksX2_createWorkingKey_1 1 rfl rfl)
theorem dX2_createWorkingKey_28 : decode cX2_createWorkingKey 28 = .ok (.lstore_n 3, 1) := dk_66 (dk_at dksX2_createWorkingKey_1 4 rfl rfl)
theorem dX2_createWorkingKey_29 : decode cX2_createWorkingKey 29 = .ok (.aload_n 0, 1) := dk_42 (dk_at dksX2_createWorkingKey_1 5 rfl rfl)
theorem dX2_createWorkingKey_30 : decode cX2_createWorkingKey 30 = .ok (.aload_n 1, 1) := dk_43 (dk_at dksX2_createWorkingKey_1 6 rfl rfl)
theorem dX2_createWorkingKey_31 : decode cX2_createWorkingKey 31 = .ok (.bipush 8, 2) := dk_16 8 (dk_at dksX2_createWorkingKey_1 7 rfl rfl)
theorem dX2_createWorkingKey_33 : decode cX2_createWorkingKey 33 = .ok (.invokevirtual 48, 3) := dk_182 0 48 (dk_at dksX2_createWorkingKey_1 9 rfl rfl)
theorem dX2_createWorkingKey_36 : decode cX2_createWorkingKey 36 = .ok (.lstore 5, 2) := dk_55 5 (dk_at dksX2_createWorkingKey_1 12 rfl rfl)
theorem dX2_createWorkingKey_38 : decode cX2_createWorkingKey 38 = .ok (.aload_n 0, 1) := dk_42 (dk_at dksX2_createWorkingKey_1 14 rfl rfl)
theorem dX2_createWorkingKey_39 : decode cX2_createWorkingKey 39 = .ok (.lload_n 3, 1) := dk_33 (dk_at dksX2_createWorkingKey_1 15 rfl rfl)
theorem dX2_createWorkingKey_40 : decode cX2_createWorkingKey 40 = .ok (.invokevirtual 65, 3) := dk_182 0 65 (dk_at dksX2_createWorkingKey_1 16 rfl rfl)
theorem dX2_createWorkingKey_43 : decode cX2_createWorkingKey 43 = .ok (.istore 7, 2) := dk_54 7 (dk_at dksX2_createWorkingKey_1 19 rfl rfl)
theorem dX2_createWorkingKey_45 : decode cX2_createWorkingKey 45 = .ok (.aload_n 0, 1) := dk_42 (dk_at dksX2_createWorkingKey_1 21 rfl rfl)
theorem dX2_createWorkingKey_46 : decode cX2_createWorkingKey 46 = .ok (.lload_n 3, 1) := dk_33 (dk_at dksX2_createWorkingKey_1 22 rfl rfl)
theorem dX2_createWorkingKey_47 : decode cX2_createWorkingKey 47 = .ok (.invokevirtual 69, 3) := dk_182 0 69 (dk_at dksX2_createWorkingKey_2 0 rfl rfl)
theorem dX2_createWorkingKey_50 : decode cX2_createWorkingKey 50 = .ok (.istore 8, 2) := dk_54 8 (dk_at dksX2_createWorkingKey_2 3 rfl rfl)
theorem dX2_createWorkingKey_52 : decode cX2_createWorkingKey 52 = .ok (.aload_n 0, 1) := dk_42 (dk_at dksX2_createWorkingKey_2 5 rfl rfl)
theorem dX2_createWorkingKey_53 : decode cX2_createWorkingKey 53 = .ok (.lload 5, 2) := dk_22 5 (dk_at dksX2_createWorkingKey_2 6 rfl rfl)
theorem dX2_createWorkingKey_55 : decode cX2_createWorkingKey 55 = .ok (.invokevirtual 65, 3) := dk_182 0 65 (dk_at dksX2_createWorkingKey_2 8 rfl rfl)
theorem dX2_createWorkingKey_58 : decode cX2_createWorkingKey 58 = .ok (.istore 9, 2) := dk_54 9 (dk_at dksX2_createWorkingKey_2 11 rfl rfl)
theorem dX2_createWorkingKey_60 : decode cX2_createWorkingKey 60 = .ok (.aload_n 0, 1) := dk_42 (dk_at dksX2_createWorkingKey_2 13 rfl rfl)
theorem dX2_createWorkingKey_61 : decode cX2_createWorkingKey 61 = .ok (.lload 5, 2) := dk_22 5 (dk_at dksX2_createWorkingKey_2 14 rfl rfl)
theorem dX2_createWorkingKey_63 : decode cX2_createWorkingKey 63 = .ok (.invokevirtual 69, 3) := dk_182 0 69 (dk_at dksX2_createWorkingKey_2 16 rfl rfl)
theorem dX2_createWorkingKey_66 : decode cX2_createWorkingKey 66 = .ok (.istore 10, 2) := dk_54 10 (dk_at dksX2_createWorkingKey_2 19 rfl rfl)
theorem dX2_createWorkingKey_68 : decode cX2_createWorkingKey 68 = .ok (.iconst 0, 1) := dk_3 (dk_at dksX2_createWorkingKey_2 21 rfl rfl)
theorem dX2_createWorkingKey_69 : decode cX2_createWorkingKey 69 = .ok (.istore 11, 2) := dk_54 11 (dk_at dksX2_createWorkingKey_2 22 rfl rfl)
theorem dX2_createWorkingKey_71 : decode cX2_createWorkingKey 71 = .ok (.iload 11, 2) := dk_21 11 (dk_at dksX2_createWorkingKey_3 0 rfl rfl)
theorem dX2_createWorkingKey_73 : decode cX2_createWorkingKey 73 = .ok (.bipush 16, 2) := dk_16 16 (dk_at dksX2_createWorkingKey_3 2 rfl rfl)
theorem dX2_createWorkingKey_75 : decode cX2_createWorkingKey 75 = .ok (.if_icmp .ge 109, 3) := dk_162 0 109 (dk_at dksX2_createWorkingKey_3 4 rfl rfl)
theorem dX2_createWorkingKey_78 : decode cX2_createWorkingKey 78 = .ok (.aload_n 2, 1) := dk_44 (dk_at dksX2_createWorkingKey_3 7 rfl rfl)
theorem dX2_createWorkingKey_79 : decode cX2_createWorkingKey 79 = .ok (.iconst 2, 1) := dk_5 (dk_at dksX2_createWorkingKey_3 8 rfl rfl)
theorem dX2_createWorkingKey_80 : decode cX2_createWorkingKey 80 = .ok (.iload 11, 2) := dk_21 11 (dk_at dksX2_createWorkingKey_3 9 rfl rfl)
theorem dX2_createWorkingKey_82 : decode cX2_createWorkingKey 82 = .ok (.imul, 1) := dk_104 (dk_at dksX2_createWorkingKey_3 11 rfl rfl)
theorem dX2_createWorkingKey_83 : decode cX2_createWorkingKey 83 = .ok (.aload_n 0, 1) := dk_42 (dk_at dksX2_createWorkingKey_3 12 rfl rfl)
theorem dX2_createWorkingKey_84 : decode cX2_createWorkingKey 84 = .ok (.iload 7, 2) := dk_21 7 (dk_at dksX2_createWorkingKey_3 13 rfl rfl)
theorem dX2_createWorkingKey_86 : decode cX2_createWorkingKey 86 = .ok (.iload 9, 2) := dk_21 9 (dk_at dksX2_createWorkingKey_3 15 rfl rfl)
theorem dX2_createWorkingKey_88 : decode cX2_createWorkingKey 88 = .ok (.iadd, 1) := dk_96 (dk_at dksX2_createWorkingKey_3 17 rfl rfl)
theorem dX2_createWorkingKey_89 : decode cX2_createWorkingKey 89 = .ok (.getstatic 72, 3) := dk_178 0 72 (dk_at dksX2_createWorkingKey_3 18 rfl rfl)
theorem dX2_createWorkingKey_92 : decode cX2_createWorkingKey 92 = .ok (.iload 11, 2) := dk_21 11 (dk_at dksX2_createWorkingKey_3 21 rfl rfl)
theorem dX2_createWorkingKey_94 : decode cX2_createWorkingKey 94 = .ok (.iaload, 1) := dk_46 (dk_at dksX2_createWorkingKey_3 23 rfl rfl)
theorem dX2_createWorkingKey_95 : decode cX2_createWorkingKey 95 = .ok (.isub, 1) := dk_100 (dk_at dksX2_createWorkingKey_4 0 rfl rfl)
theorem dX2_createWorkingKey_96 : decode cX2_createWorkingKey 96 = .ok (.invokevirtual 75, 3) := dk_182 0 75 (dk_at dksX2_createWorkingKey_4 1 rfl rfl)
theorem dX2_createWorkingKey_99 : decode cX2_createWorkingKey 99 = .ok (.iastore, 1) := dk_79 (dk_at dksX2_createWorkingKey_4 4 rfl rfl)
theorem dX2_createWorkingKey_100 : decode cX2_createWorkingKey 100 = .ok (.aload_n 2, 1) := dk_44 (dk_at dksX2_createWorkingKey_4 5 rfl rfl)
theorem dX2_createWorkingKey_101 : decode cX2_createWorkingKey 101 = .ok (.iconst 2, 1) := dk_5 (dk_at dksX2_createWorkingKey_4 6 rfl rfl)
theorem dX2_createWorkingKey_102 : decode cX2_createWorkingKey 102 = .ok (.iload 11, 2) := dk_21 11 (dk_at dksX2_createWorkingKey_4 7 rfl rfl)
theorem dX2_createWorkingKey_104 : decode cX2_createWorkingKey 104 = .ok (.imul, 1) := dk_104 (dk_at dksX2_createWorkingKey_4 9 rfl rfl)
theorem dX2_createWorkingKey_105 : decode cX2_createWorkingKey 105 = .ok (.iconst 1, 1) := dk_4 (dk_at dksX2_createWorkingKey_4 10 rfl rfl)
theorem dX2_createWorkingKey_106 : decode cX2_createWorkingKey 106 = .ok (.iadd, 1) := dk_96 (dk_at dksX2_createWorkingKey_4 11 rfl rfl)
theorem dX2_createWorkingKey_107 : decode cX2_createWorkingKey 107 = .ok (.aload_n 0, 1) := dk_42 (dk_at dksX2_createWorkingKey_4 12 rfl rfl)
theorem dX2_createWorkingKey_108 : decode cX2_createWorkingKey 108 = .ok (.iload 8, 2) := dk_21 8 (dk_at dksX2_createWorkingKey_4 13 rfl rfl)
theorem dX2_createWorkingKey_110 : decode cX2_createWorkingKey 110 = .ok (.iload 10, 2) := dk_21 10 (dk_at dksX2_createWorkingKey_4 15 rfl rfl)
theorem dX2_createWorkingKey_112 : decode cX2_createWorkingKey 112 = .ok (.isub, 1) := dk_100 (dk_at dksX2_createWorkingKey_4 17 rfl rfl)
theorem dX2_createWorkingKey_113 : decode cX2_createWorkingKey 113 = .ok (.getstatic 72, 3) := dk_178 0 72 (dk_at dksX2_createWorkingKey_4 18 rfl rfl)
theorem dX2_createWorkingKey_116 : decode cX2_createWorkingKey 116 = .ok (.iload 11, 2) := dk_21 11 (dk_at dksX2_createWorkingKey_4 21 rfl rfl)
theorem dX2_createWorkingKey_118 : decode cX2_createWorkingKey 118 = .ok (.iaload, 1) := dk_46 (dk_at dksX2_createWorkingKey_4 23 rfl rfl)
theorem dX2_createWorkingKey_119 : decode cX2_createWorkingKey 119 = .ok (.iadd, 1) := dk_96 (dk_at dksX2_createWorkingKey_5 0 rfl rfl)
theorem dX2_createWorkingKey_120 : decode cX2_createWorkingKey 120 = .ok (.invokevirtual 75, 3) := dk_182 0 75 (dk_at dksX2_createWorkingKey_5 1 rfl rfl)
theorem dX2_createWorkingKey_123 : decode cX2_createWorkingKey 123 = .ok (.iastore, 1) := dk_79 (dk_at dksX2_createWorkingKey_5 4 rfl rfl)
theorem dX2_createWorkingKey_124 : decode cX2_createWorkingKey 124 = .ok (.iload 11, 2) := dk_21 11 (dk_at dksX2_createWorkingKey_5 5 rfl rfl)
theorem dX2_createWorkingKey_126 : decode cX2_createWorkingKey 126 = .ok (.iconst 2, 1) := dk_5 (dk_at dksX2_createWorkingKey_5 7 rfl rfl)
theorem dX2_createWorkingKey_127 : decode cX2_createWorkingKey 127 = .ok (.irem, 1) := dk_112 (dk_at dksX2_createWorkingKey_5 8 rfl rfl)
theorem dX2_createWorkingKey_128 : decode cX2_createWorkingKey 128 = .ok (.ifCond .ne 26, 3) := dk_154 0 26 (dk_at dksX2_createWorkingKey_5 9 rfl rfl)
theorem dX2_createWorkingKey_131 : decode cX2_createWorkingKey 131 = .ok (.aload_n 0, 1) := dk_42 (dk_at dksX2_createWorkingKey_5 12 rfl rfl)
theorem dX2_createWorkingKey_132 : decode cX2_createWorkingKey 132 = .ok (.lload_n 3, 1) := dk_33 (dk_at dksX2_createWorkingKey_5 13 rfl rfl)
theorem dX2_createWorkingKey_133 : decode cX2_createWorkingKey 133 = .ok (.invokevirtual 79, 3) := dk_182 0 79 (dk_at dksX2_createWorkingKey_5 14 rfl rfl)
theorem dX2_createWorkingKey_136 : decode cX2_createWorkingKey 136 = .ok (.lstore_n 3, 1) := dk_66 (dk_at dksX2_createWorkingKey_5 17 rfl rfl)
theorem dX2_createWorkingKey_137 : decode cX2_createWorkingKey 137 = .ok (.aload_n 0, 1) := dk_42 (dk_at dksX2_createWorkingKey_5 18 rfl rfl)
theorem dX2_createWorkingKey_138 : decode cX2_createWorkingKey 138 = .ok (.lload_n 3, 1) := dk_33 (dk_at dksX2_createWorkingKey_5 19 rfl rfl)
theorem dX2_createWorkingKey_139 : decode cX2_createWorkingKey 139 = .ok (.invokevirtual 65, 3) := dk_182 0 65 (dk_at dksX2_createWorkingKey_5 20 rfl rfl)
theorem dX2_createWorkingKey_142 : decode cX2_createWorkingKey 142 = .ok (.istore 7, 2) := dk_54 7 (dk_at dksX2_createWorkingKey_6 0 rfl rfl)
theorem dX2_createWorkingKey_144 : decode cX2_createWorkingKey 144 = .ok (.aload_n 0, 1) := dk_42 (dk_at dksX2_createWorkingKey_6 2 rfl rfl)
theorem dX2_createWorkingKey_145 : decode cX2_createWorkingKey 145 = .ok (.lload_n 3, 1) := dk_33 (dk_at dksX2_createWorkingKey_6 3 rfl rfl)
theorem dX2_createWorkingKey_146 : decode cX2_createWorkingKey 146 = .ok (.invokevirtual 69, 3) := dk_182 0 69 (dk_at dksX2_createWorkingKey_6 4 rfl rfl)
theorem dX2_createWorkingKey_149 : decode cX2_createWorkingKey 149 = .ok (.istore 8, 2) := dk_54 8 (dk_at dksX2_createWorkingKey_6 7 rfl rfl)
theorem dX2_createWorkingKey_151 : decode cX2_createWorkingKey 151 = .ok (.goto 27, 3) := dk_167 0 27 (dk_at dksX2_createWorkingKey_6 9 rfl rfl)
theorem dX2_createWorkingKey_154 : decode cX2_createWorkingKey 154 = .ok (.aload_n 0, 1) := dk_42 (dk_at dksX2_createWorkingKey_6 12 rfl rfl)
theorem dX2_createWorkingKey_155 : decode cX2_createWorkingKey 155 = .ok (.lload 5, 2) := dk_22 5 (dk_at dksX2_createWorkingKey_6 13 rfl rfl)
theorem dX2_createWorkingKey_157 : decode cX2_createWorkingKey 157 = .ok (.invokevirtual 83, 3) := dk_182 0 83 (dk_at dksX2_createWorkingKey_6 15 rfl rfl)
theorem dX2_createWorkingKey_160 : decode cX2_createWorkingKey 160 = .ok (.lstore 5, 2) := dk_55 5 (dk_at dksX2_createWorkingKey_6 18 rfl rfl)
theorem dX2_createWorkingKey_162 : decode cX2_createWorkingKey 162 = .ok (.aload_n 0, 1) := dk_42 (dk_at dksX2_createWorkingKey_6 20 rfl rfl)
theorem dX2_createWorkingKey_163 : decode cX2_createWorkingKey 163 = .ok (.lload 5, 2) := dk_22 5 (dk_at dksX2_createWorkingKey_6 21 rfl rfl)
theorem dX2_createWorkingKey_165 : decode cX2_createWorkingKey 165 = .ok (.invokevirtual 65, 3) := dk_182 0 65 (dk_at dksX2_createWorkingKey_7 0 rfl rfl)
theorem dX2_createWorkingKey_168 : decode cX2_createWorkingKey 168 = .ok (.istore 9, 2) := dk_54 9 (dk_at dksX2_createWorkingKey_7 3 rfl rfl)
theorem dX2_createWorkingKey_170 : decode cX2_createWorkingKey 170 = .ok (.aload_n 0, 1) := dk_42 (dk_at dksX2_createWorkingKey_7 5 rfl rfl)
theorem dX2_createWorkingKey_171 : decode cX2_createWorkingKey 171 = .ok (.lload 5, 2) := dk_22 5 (dk_at dksX2_createWorkingKey_7 6 rfl rfl)
theorem dX2_createWorkingKey_173 : decode cX2_createWorkingKey 173 = .ok (.invokevirtual 69, 3) := dk_182 0 69 (dk_at dksX2_createWorkingKey_7 8 rfl rfl)
theorem dX2_createWorkingKey_176 : decode cX2_createWorkingKey 176 = .ok (.istore 10, 2) := dk_54 10 (dk_at dksX2_createWorkingKey_7 11 rfl rfl)
theorem dX2_createWorkingKey_178 : decode cX2_createWorkingKey 178 = .ok (.iinc 11 1, 3) := dk_132 11 1 (dk_at dksX2_createWorkingKey_7 13 rfl rfl)
theorem dX2_createWorkingKey_181 : decode cX2_createWorkingKey 181 = .ok (.goto (-110), 3) := dk_167 255 146 (dk_at dksX2_createWorkingKey_7 16 rfl rfl)
theorem dX2_createWorkingKey_184 : decode cX2_createWorkingKey 184 = .ok (.aload_n 2, 1) := dk_44 (dk_at dksX2_createWorkingKey_7 19 rfl rfl)
theorem dX2_createWorkingKey_185 : decode cX2_createWorkingKey 185 = .ok (.areturn, 1) := dk_176 (dk_at dksX2_createWorkingKey_7 20 rfl rfl)
abbrev cX2_bytesToLong : ByteArray := prog_7_method_9_code
def yX2_bytesToLong : MethodName := ⟨RX2, "bytesToLong", "([BI)J"⟩
def dkwX2_bytesToLong_1 : List UInt8 := [17, 0, 255, 126, 133, 97, 66, 132, 5, 1, 167, 255, 229, 33, 173]
abbrev dktX2_bytesToLong_1 : List UInt8 := dkwX2_bytesToLong_1 ++ []
def dkwX2_bytesToLong_0 : List UInt8 := [9, 66, 3, 54, 5, 21, 5, 16, 7, 163, 0, 26, 33, 16, 8, 121, 43, 21, 5, 28, 96, 51]
abbrev dktX2_bytesToLong_0 : List UInt8 := dkwX2_bytesToLong_0 ++ dktX2_bytesToLong_1
theorem dksX2_bytesToLong_0 : cX2_bytesToLong.data.toList.drop 0 = dktX2_bytesToLong_0 := by decide +kernel
theorem dksX2_bytesToLong_1 : cX2_bytesToLong.data.toList.drop 22 = dktX2_bytesToLong_1 := dk_seg dksX2_bytesToLong_0 22 rfl rfl
theorem dX2_bytesToLong_0 : decode cX2_bytesToLong 0 = .ok (.lconst 0, 1) := dk_9 (dk_at dksX2_bytesToLong_0 0 rfl rfl)
theorem dX2_bytesToLong_1 : decode cX2_bytesToLong 1 = .ok (.lstore_n 3, 1) := dk_66 (dk_at dksX2_bytesToLong_0 1 rfl rfl)
theorem dX2_bytesToLong_2 : decode cX2_bytesToLong 2 = .ok (.iconst 0, 1) := dk_3 (dk_at dksX2_bytesToLong_0 2 rfl rfl)
theorem dX2_bytesToLong_3 : decode cX2_bytesToLong 3 = .ok (.istore 5, 2) := dk_54 5 (dk_at dksX2_bytesToLong_0 3 rfl rfl)
theorem dX2_bytesToLong_5 : decode cX2_bytesToLong 5 = .ok (.iload 5, 2) := dk_21 5 (dk_at dksX2_bytesToLong_0 5 rfl rfl)
theorem dX2_bytesToLong_7 : decode cX2_bytesToLong 7 = .ok (.bipush 7, 2) := dk_16 7 (dk_at dksX2_bytesToLong_0 7 rfl rfl)
theorem dX2_bytesToLong_9 : decode cX2_bytesToLong 9 = .ok (.if_icmp .gt 26, 3) := dk_163 0 26 (dk_at dksX2_bytesToLong_0 9 rfl rfl)
theorem dX2_bytesToLong_12 : decode cX2_bytesToLong 12 = .ok (.lload_n 3, 1) := dk_33 (dk_at dksX2_bytesToLong_0 12 rfl rfl)
theorem dX2_bytesToLong_13 : decode cX2_bytesToLong 13 = .ok (.bipush 8, 2) := dk_16 8 (dk_at dksX2_bytesToLong_0 13 rfl rfl)
theorem dX2_bytesToLong_15 : decode cX2_bytesToLong 15 = .ok (.lshl, 1) := dk_121 (dk_at dksX2_bytesToLong_0 15 rfl rfl)
theorem dX2_bytesToLong_16 : decode cX2_bytesToLong 16 = .ok (.aload_n 1, 1) := dk_43 (dk_at dksX2_bytesToLong_0 16 rfl rfl)
theorem dX2_bytesToLong_17 : decode cX2_bytesToLong 17 = .ok (.iload 5, 2) := dk_21 5 (dk_at dksX2_bytesToLong_0 17 rfl rfl)
theorem dX2_bytesToLong_19 : decode cX2_bytesToLong 19 = .ok (.iload_n 2, 1) := dk_28 (dk_at dksX2_bytesToLong_0 19 rfl rfl)
theorem dX2_bytesToLong_20 : decode cX2_bytesToLong 20 = .ok (.iadd, 1) := dk_96 (dk_at dksX2_bytesToLong_0 20 rfl rfl)
theorem dX2_bytesToLong_21 : decode cX2_bytesToLong 21 = .ok (.baload, 1) := dk_51 (dk_at dksX2_bytesToLong_0 21 rfl rfl)
theorem dX2_bytesToLong_22 : decode cX2_bytesToLong 22 = .ok (.sipush 255, 3) := dk_17 0 255 (dk_at dksX2_bytesToLong_1 0 rfl rfl)
theorem dX2_bytesToLong_25 : decode cX2_bytesToLong 25 = .ok (.iand, 1) := dk_126 (dk_at dksX2_bytesToLong_1 3 rfl rfl)
theorem dX2_bytesToLong_26 : decode cX2_bytesToLong 26 = .ok (.i2l, 1) := dk_133 (dk_at dksX2_bytesToLong_1 4 rfl rfl)
theorem dX2_bytesToLong_27 : decode cX2_bytesToLong 27 = .ok (.ladd, 1) := dk_97 (dk_at dksX2_bytesToLong_1 5 rfl rfl)
theorem dX2_bytesToLong_28 : decode cX2_bytesToLong 28 = .ok (.lstore_n 3, 1) := dk_66 (dk_at dksX2_bytesToLong_1 6 rfl rfl)
theorem dX2_bytesToLong_29 : decode cX2_bytesToLong 29 = .ok (.iinc 5 1, 3) := dk_132 5 1 (dk_at dksX2_bytesToLong_1 7 rfl rfl)
theorem dX2_bytesToLong_32 : decode cX2_bytesToLong 32 = .ok (.goto (-27), 3) := dk_167 255 229 (dk_at dksX2_bytesToLong_1 10 rfl rfl)
theorem dX2_bytesToLong_35 : decode cX2_bytesToLong 35 = .ok (.lload_n 3, 1) := dk_33 (dk_at dksX2_bytesToLong_1 13 rfl rfl)
theorem dX2_bytesToLong_36 : decode cX2_bytesToLong 36 = .ok (.lreturn, 1) := dk_173 (dk_at dksX2_bytesToLong_1 14 rfl rfl)
abbrev cX2_extractW0 : ByteArray := prog_7_method_6_code
def yX2_extractW0 : MethodName := ⟨RX2, "extractW0", "(J)I"⟩
def dkwX2_extractW0_0 : List UInt8 := [31, 16, 32, 123, 136, 172]
abbrev dktX2_extractW0_0 : List UInt8 := dkwX2_extractW0_0 ++ []
theorem dksX2_extractW0_0 : cX2_extractW0.data.toList.drop 0 = dktX2_extractW0_0 := by decide +kernel
theorem dX2_extractW0_0 : decode cX2_extractW0 0 = .ok (.lload_n 1, 1) := dk_31 (dk_at dksX2_extractW0_0 0 rfl rfl)
theorem dX2_extractW0_1 : decode cX2_extractW0 1 = .ok (.bipush 32, 2) := dk_16 32 (dk_at dksX2_extractW0_0 1 rfl rfl)
theorem dX2_extractW0_3 : decode cX2_extractW0 3 = .ok (.lshr, 1) := dk_123 (dk_at dksX2_extractW0_0 3 rfl rfl)
theorem dX2_extractW0_4 : decode cX2_extractW0 4 = .ok (.l2i, 1) := dk_136 (dk_at dksX2_extractW0_0 4 rfl rfl)
theorem dX2_extractW0_5 : decode cX2_extractW0 5 = .ok (.ireturn, 1) := dk_172 (dk_at dksX2_extractW0_0 5 rfl rfl)
abbrev cX2_extractW1 : ByteArray := prog_7_method_5_code
def yX2_extractW1 : MethodName := ⟨RX2, "extractW1", "(J)I"⟩
theorem dX2_extractW1_0 : decode cX2_extractW1 0 = .ok (.lload_n 1, 1) := by decide +kernel
theorem dX2_extractW1_1 : decode cX2_extractW1 1 = .ok (.l2i, 1) := by decide +kernel
theorem dX2_extractW1_2 : decode cX2_extractW1 2 = .ok (.ireturn, 1) := by decide +kernel
abbrev cX2_G : ByteArray := prog_7_method_11_code
def yX2_G : MethodName := ⟨RX2, "G", "(I)I"⟩
def dkwX2_G_2 : List UInt8 := [46, 130, 172]
abbrev dktX2_G_2 : List UInt8 := dkwX2_G_2 ++ []
def dkwX2_G_1 : List UInt8 := [178, 0, 92, 27, 16, 16, 122, 17, 0, 255, 126, 46, 130, 178, 0, 95, 27, 16, 24, 122, 17, 0, 255, 126]
abbrev dktX2_G_1 : List UInt8 := dkwX2_G_1 ++ dktX2_G_2
def dkwX2_G_0 : List UInt8 := [178, 0, 86, 27, 17, 0, 255, 126, 46, 178, 0, 89, 27, 16, 8, 122, 17, 0, 255, 126, 46, 130]
abbrev dktX2_G_0 : List UInt8 := dkwX2_G_0 ++ dktX2_G_1
theorem dksX2_G_0 : cX2_G.data.toList.drop 0 = dktX2_G_0 := by decide +kernel
theorem dksX2_G_1 : cX2_G.data.toList.drop 22 = dktX2_G_1 := dk_seg dksX2_G_0 22 rfl rfl
theorem dksX2_G_2 : cX2_G.data.toList.drop 46 = dktX2_G_2 := dk_seg dksX2_G_1 24 rfl rfl
theorem dX2_G_0 : decode cX2_G 0 = .ok (.getstatic 86, 3) := dk_178 0 86 (dk_at dksX2_G_0 0 rfl rfl)
theorem dX2_G_3 : decode cX2_G 3 = .ok (.iload_n 1, 1) := dk_27 (dk_at dksX2_G_0 3 rfl rfl)
theorem dX2_G_4 : decode cX2_G 4 = .ok (.sipush 255, 3) := dk_17 0 255 (dk_at dksX2_G_0 4 rfl rfl)
theorem dX2_G_7 : decode cX2_G 7 = .ok (.iand, 1) := dk_126 (dk_at dksX2_G_0 7 rfl rfl)
theorem dX2_G_8 : decode cX2_G 8 = .ok (.iaload, 1) := dk_46 (dk_at dksX2_G_0 8 rfl rfl)
theorem dX2_G_9 : decode cX2_G 9 = .ok (.getstatic 89, 3) := dk_178 0 89 (dk_at dksX2_G_0 9 rfl rfl)
theorem dX2_G_12 : decode cX2_G 12 = .ok (.iload_n 1, 1) := dk_27 (dk_at dksX2_G_0 12 rfl rfl)
theorem dX2_G_13 : decode cX2_G 13 = .ok (.bipush 8, 2) := dk_16 8 (dk_at dksX2_G_0 13 rfl rfl)
theorem dX2_G_15 : decode cX2_G 15 = .ok (.ishr, 1) := dk_122 (dk_at dksX2_G_0 15 rfl rfl)
theorem dX2_G_16 : decode cX2_G 16 = .ok (.sipush 255, 3) := dk_17 0 255 (dk_at dksX2_G_0 16 rfl rfl)
theorem dX2_G_19 : decode cX2_G 19 = .ok (.iand, 1) := dk_126 (dk_at dksX2_G_0 19 rfl rfl)
theorem dX2_G_20 : decode cX2_G 20 = .ok (.iaload, 1) := dk_46 (dk_at dksX2_G_0 20 rfl rfl)
theorem dX2_G_21 : decode cX2_G 21 = .ok (.ixor, 1) := dk_130 (dk_at dksX2_G_0 21 rfl rfl)
theorem dX2_G_22 : decode cX2_G 22 = .ok (.getstatic 92, 3) := dk_178 0 92 (dk_at dksX2_G_1 0 rfl rfl)
theorem dX2_G_25 : decode cX2_G 25 = .ok (.iload_n 1, 1) := dk_27 (dk_at dksX2_G_1 3 rfl rfl)
theorem dX2_G_26 : decode cX2_G 26 = .ok (.bipush 16, 2) := dk_16 16 (dk_at dksX2_G_1 4 rfl rfl)
theorem dX2_G_28 : decode cX2_G 28 = .ok (.ishr, 1) := dk_122 (dk_at dksX2_G_1 6 rfl rfl)
theorem dX2_G_29 : decode cX2_G 29 = .ok (.sipush 255, 3) := dk_17 0 255 (dk_at dksX2_G_1 7 rfl rfl)
theorem dX2_G_32 : decode cX2_G 32 = .ok (.iand, 1) := dk_126 (dk_at dksX2_G_1 10 rfl rfl)
theorem dX2_G_33 : decode cX2_G 33 = .ok (.iaload, 1) := dk_46 (dk_at dksX2_G_1 11 rfl rfl)
theorem dX2_G_34 : decode cX2_G 34 = .ok (.ixor, 1) := dk_130 (dk_at dksX2_G_1 12 rfl rfl)
theorem dX2_G_35 : decode cX2_G 35 = .ok (.getstatic 95, 3) := dk_178 0 95 (dk_at dksX2_G_1 13 rfl rfl)
theorem dX2_G_38 : decode cX2_G 38 = .ok (.iload_n 1, 1) := dk_27 (dk_at dksX2_G_1 16 rfl rfl)
theorem dX2_G_39 : decode cX2_G 39 = .ok (.bipush 24, 2) := dk_16 24 (dk_at dksX2_G_1 17 rfl rfl)
theorem dX2_G_41 : decode cX2_G 41 = .ok (.ishr, 1) := dk_122 (dk_at dksX2_G_1 19 rfl rfl)
theorem dX2_G_42 : decode cX2_G 42 = .ok (.sipush 255, 3) := dk_17 0 255 (dk_at dksX2_G_1 20 rfl rfl)
theorem dX2_G_45 : decode cX2_G 45 = .ok (.iand, 1) := dk_126 (dk_at dksX2_G_1 23 rfl rfl)
theorem dX2_G_46 : decode cX2_G 46 = .ok (.iaload, 1) := dk_46 (dk_at dksX2_G_2 0 rfl rfl)
theorem dX2_G_47 : decode cX2_G 47 = .ok (.ixor, 1) := dk_130 (dk_at dksX2_G_2 1 rfl rfl)
theorem dX2_G_48 : decode cX2_G 48 = .ok (.ireturn, 1) := dk_172 (dk_at dksX2_G_2 2 rfl rfl)
abbrev cX2_rotateRight8 : ByteArray := prog_7_method_8_code
def yX2_rotateRight8 : MethodName := ⟨RX2, "rotateRight8", "(J)J"⟩
def dkwX2_rotateRight8_0 : List UInt8 := [31, 16, 8, 125, 31, 16, 56, 121, 129, 173]
abbrev dktX2_rotateRight8_0 : List UInt8 := dkwX2_rotateRight8_0 ++ []
theorem dksX2_rotateRight8_0 : cX2_rotateRight8.data.toList.drop 0 = dktX2_rotateRight8_0 := by decide +kernel
theorem dX2_rotateRight8_0 : decode cX2_rotateRight8 0 = .ok (.lload_n 1, 1) := dk_31 (dk_at dksX2_rotateRight8_0 0 rfl rfl)
theorem dX2_rotateRight8_1 : decode cX2_rotateRight8 1 = .ok (.bipush 8, 2) := dk_16 8 (dk_at dksX2_rotateRight8_0 1 rfl rfl)
theorem dX2_rotateRight8_3 : decode cX2_rotateRight8 3 = .ok (.lushr, 1) := dk_125 (dk_at dksX2_rotateRight8_0 3 rfl rfl)
theorem dX2_rotateRight8_4 : decode cX2_rotateRight8 4 = .ok (.lload_n 1, 1) := dk_31 (dk_at dksX2_rotateRight8_0 4 rfl rfl)
theorem dX2_rotateRight8_5 : decode cX2_rotateRight8 5 = .ok (.bipush 56, 2) := dk_16 56 (dk_at dksX2_rotateRight8_0 5 rfl rfl)
theorem dX2_rotateRight8_7 : decode cX2_rotateRight8 7 = .ok (.lshl, 1) := dk_121 (dk_at dksX2_rotateRight8_0 7 rfl rfl)
theorem dX2_rotateRight8_8 : decode cX2_rotateRight8 8 = .ok (.lor, 1) := dk_129 (dk_at dksX2_rotateRight8_0 8 rfl rfl)
theorem dX2_rotateRight8_9 : decode cX2_rotateRight8 9 = .ok (.lreturn, 1) := dk_173 (dk_at dksX2_rotateRight8_0 9 rfl rfl)
abbrev cX2_rotateLeft8 : ByteArray := prog_7_method_7_code
def yX2_rotateLeft8 : MethodName := ⟨RX2, "rotateLeft8", "(J)J"⟩
def dkwX2_rotateLeft8_0 : List UInt8 := [31, 16, 8, 121, 31, 16, 56, 125, 129, 173]
abbrev dktX2_rotateLeft8_0 : List UInt8 := dkwX2_rotateLeft8_0 ++ []
theorem dksX2_rotateLeft8_0 : cX2_rotateLeft8.data.toList.drop 0 = dktX2_rotateLeft8_0 := by decide +kernel
theorem dX2_rotateLeft8_0 : decode cX2_rotateLeft8 0 = .ok (.lload_n 1, 1) := dk_31 (dk_at dksX2_rotateLeft8_0 0 rfl rfl)
theorem dX2_rotateLeft8_1 : decode cX2_rotateLeft8 1 = .ok (.bipush 8, 2) := dk_16 8 (dk_at dksX2_rotateLeft8_0 1 rfl rfl)
theorem dX2_rotateLeft8_3 : decode cX2_rotateLeft8 3 = .ok (.lshl, 1) := dk_121 (dk_at dksX2_rotateLeft8_0 3 rfl rfl)
theorem dX2_rotateLeft8_4 : decode cX2_rotateLeft8 4 = .ok (.lload_n 1, 1) := dk_31 (dk_at dksX2_rotateLeft8_0 4 rfl rfl)
theorem dX2_rotateLeft8_5 : decode cX2_rotateLeft8 5 = .ok (.bipush 56, 2) := dk_16 56 (dk_at dksX2_rotateLeft8_0 5 rfl rfl)
theorem dX2_rotateLeft8_7 : decode cX2_rotateLeft8 7 = .ok (.lushr, 1) := dk_125 (dk_at dksX2_rotateLeft8_0 7 rfl rfl)
theorem dX2_rotateLeft8_8 : decode cX2_rotateLeft8 8 = .ok (.lor, 1) := dk_129 (dk_at dksX2_rotateLeft8_0 8 rfl rfl)
theorem dX2_rotateLeft8_9 : decode cX2_rotateLeft8 9 = .ok (.lreturn, 1) := dk_173 (dk_at dksX2_rotateLeft8_0 9 rfl rfl)
abbrev cX2_processBlock : ByteArray := prog_7_method_3_code
def yX2_processBlock : MethodName := ⟨RX2, "processBlock", "([BI[BI)I"⟩
def dkwX2_processBlock_9 : List UInt8 := [21, 4, 16, 8, 96, 22, 5, 182, 0, 56, 16, 16, 172]
abbrev dktX2_processBlock_9 : List UInt8 := dkwX2_processBlock_9 ++ []
def dkwX2_processBlock_8 : List UInt8 := [22, 10, 55, 5, 132, 9, 255, 167, 255, 209, 42, 45, 21, 4, 3, 96, 22, 7, 182, 0, 56, 42, 45]
abbrev dktX2_processBlock_8 : List UInt8 := dkwX2_processBlock_8 ++ dktX2_processBlock_9
def dkwX2_processBlock_7 : List UInt8 := [21, 9, 104, 46, 42, 180, 0, 27, 5, 21, 9, 104, 4, 96, 46, 22, 7, 182, 0, 52, 131, 55, 7]
abbrev dktX2_processBlock_7 : List UInt8 := dkwX2_processBlock_7 ++ dktX2_processBlock_8
def dkwX2_processBlock_6 : List UInt8 := [167, 0, 57, 16, 15, 54, 9, 21, 9, 155, 0, 48, 22, 7, 55, 10, 22, 5, 42, 42, 180, 0, 27, 5]
abbrev dktX2_processBlock_6 : List UInt8 := dkwX2_processBlock_6 ++ dktX2_processBlock_7
def dkwX2_processBlock_5 : List UInt8 := [21, 9, 104, 4, 96, 46, 22, 7, 182, 0, 52, 131, 55, 7, 22, 10, 55, 5, 132, 9, 1, 167, 255, 207]
abbrev dktX2_processBlock_5 : List UInt8 := dkwX2_processBlock_5 ++ dktX2_processBlock_6
def dkwX2_processBlock_4 : List UInt8 := [162, 0, 48, 22, 7, 55, 10, 22, 5, 42, 42, 180, 0, 27, 5, 21, 9, 104, 46, 42, 180, 0, 27, 5]
abbrev dktX2_processBlock_4 : List UInt8 := dkwX2_processBlock_4 ++ dktX2_processBlock_5
def dkwX2_processBlock_3 : List UInt8 := [16, 8, 96, 182, 0, 48, 55, 7, 42, 180, 0, 13, 153, 0, 61, 3, 54, 9, 21, 9, 16, 16]
abbrev dktX2_processBlock_3 : List UInt8 := dkwX2_processBlock_3 ++ dktX2_processBlock_4
def dkwX2_processBlock_2 : List UInt8 := [187, 0, 43, 89, 18, 45, 183, 0, 47, 191, 42, 43, 28, 3, 96, 182, 0, 48, 55, 5, 42, 43, 28]
abbrev dktX2_processBlock_2 : List UInt8 := dkwX2_processBlock_2 ++ dktX2_processBlock_3
def dkwX2_processBlock_1 : List UInt8 := [164, 0, 13, 187, 0, 38, 89, 18, 40, 183, 0, 42, 191, 21, 4, 16, 16, 96, 45, 190, 164, 0, 13]
abbrev dktX2_processBlock_1 : List UInt8 := dkwX2_processBlock_1 ++ dktX2_processBlock_2
def dkwX2_processBlock_0 : List UInt8 := [42, 180, 0, 27, 199, 0, 13, 187, 0, 31, 89, 18, 33, 183, 0, 35, 191, 28, 16, 16, 96, 43, 190]
abbrev dktX2_processBlock_0 : List UInt8 := dkwX2_processBlock_0 ++ dktX2_processBlock_1
theorem dksX2_processBlock_0 : cX2_processBlock.data.toList.drop 0 = dktX2_processBlock_0 := by decide +kernel
theorem dksX2_processBlock_1 : cX2_processBlock.data.toList.drop 23 = dktX2_processBlock_1 := dk_seg dksX2_processBlock_0 23 rfl rfl
theorem dksX2_processBlock_2 : cX2_processBlock.data.toList.drop 46 = dktX2_processBlock_2 := dk_seg dksX2_processBlock_1 23 rfl rfl
theorem dksX2_processBlock_3 : cX2_processBlock.data.toList.drop 69 = dktX2_processBlock_3 := dk_seg dksX2_processBlock_2 23 rfl rfl
theorem dksX2_processBlock_4 : cX2_processBlock.data.toList.drop 91 = dktX2_processBlock_4 := dk_seg dksX2_processBlock_3 22 rfl rfl
theorem dksX2_processBlock_5 : cX2_processBlock.data.toList.drop 115 = dktX2_processBlock_5 := dk_seg dksX2_processBlock_4 24 rfl rfl
theorem dksX2_processBlock_6 : cX2_processBlock.data.toList.drop 139 = dktX2_processBlock_6 := dk_seg dksX2_processBlock_5 24 rfl rfl
theorem dksX2_processBlock_7 : cX2_processBlock.data.toList.drop 163 = dktX2_processBlock_7 := dk_seg dksX2_processBlock_6 24 rfl rfl
theorem dksX2_processBlock_8 : cX2_processBlock.data.toList.drop 186 = dktX2_processBlock_8 := dk_seg dksX2_processBlock_7 23 rfl rfl
theorem dksX2_processBlock_9 : cX2_processBlock.data.toList.drop 209 = dktX2_processBlock_9 := dk_seg dksX2_processBlock_8 23 rfl rfl
theorem dX2_processBlock_0 : decode cX2_processBlock 0 = .ok (.aload_n 0, 1) := dk_42 (dk_at dksX2_processBlock_0 0 rfl rfl)
theorem dX2_processBlock_1 : decode cX2_processBlock 1 = .ok (.getfield 27, 3) := dk_180 0 27 (dk_at dksX2_processBlock_0 1 rfl rfl)
theorem dX2_processBlock_4 : decode cX2_processBlock 4 = .ok (.ifnonnull 13, 3) := dk_199 0 13 (dk_at dksX2_processBlock_0 4 rfl rfl)
theorem dX2_processBlock_7 : decode cX2_processBlock 7 = .ok (.new 31, 3) := dk_187 0 31 (dk_at dksX2_processBlock_0 7 rfl rfl)
theorem dX2_processBlock_10 : decode cX2_processBlock 10 = .ok (.dup, 1) := dk_89 (dk_at dksX2_processBlock_0 10 rfl rfl)
theorem dX2_processBlock_11 : decode cX2_processBlock 11 = .ok (.ldc 33, 2) := dk_18 33 (dk_at dksX2_processBlock_0 11 rfl rfl)
theorem dX2_processBlock_13 : decode cX2_processBlock 13 = .ok (.invokespecial 35, 3) := dk_183 0 35 (dk_at dksX2_processBlock_0 13 rfl rfl)
theorem dX2_processBlock_16 : decode cX2_processBlock 16 = .ok (.athrow, 1) := dk_191 (dk_at dksX2_processBlock_0 16 rfl rfl)
theorem dX2_processBlock_17 : decode cX2_processBlock 17 = .ok (.iload_n 2, 1) := dk_28 (dk_at dksX2_processBlock_0 17 rfl rfl)
theorem dX2_processBlock_18 : decode cX2_processBlock 18 = .ok (.bipush 16, 2) := dk_16 16 (dk_at dksX2_processBlock_0 18 rfl rfl)
theorem dX2_processBlock_20 : decode cX2_processBlock 20 = .ok (.iadd, 1) := dk_96 (dk_at dksX2_processBlock_0 20 rfl rfl)
theorem dX2_processBlock_21 : decode cX2_processBlock 21 = .ok (.aload_n 1, 1) := dk_43 (dk_at dksX2_processBlock_0 21 rfl rfl)
theorem dX2_processBlock_22 : decode cX2_processBlock 22 = .ok (.arraylength, 1) := dk_190 (dk_at dksX2_processBlock_0 22 rfl rfl)
theorem dX2_processBlock_23 : decode cX2_processBlock 23 = .ok (.if_icmp .le 13, 3) := dk_164 0 13 (dk_at dksX2_processBlock_1 0 rfl rfl)
theorem dX2_processBlock_26 : decode cX2_processBlock 26 = .ok (.new 38, 3) := dk_187 0 38 (dk_at dksX2_processBlock_1 3 rfl rfl)
theorem dX2_processBlock_29 : decode cX2_processBlock 29 = .ok (.dup, 1) := dk_89 (dk_at dksX2_processBlock_1 6 rfl rfl)
theorem dX2_processBlock_30 : decode cX2_processBlock 30 = .ok (.ldc 40, 2) := dk_18 40 (dk_at dksX2_processBlock_1 7 rfl rfl)
theorem dX2_processBlock_32 : decode cX2_processBlock 32 = .ok (.invokespecial 42, 3) := dk_183 0 42 (dk_at dksX2_processBlock_1 9 rfl rfl)
theorem dX2_processBlock_35 : decode cX2_processBlock 35 = .ok (.athrow, 1) := dk_191 (dk_at dksX2_processBlock_1 12 rfl rfl)
theorem dX2_processBlock_36 : decode cX2_processBlock 36 = .ok (.iload 4, 2) := dk_21 4 (dk_at dksX2_processBlock_1 13 rfl rfl)
theorem dX2_processBlock_38 : decode cX2_processBlock 38 = .ok (.bipush 16, 2) := dk_16 16 (dk_at dksX2_processBlock_1 15 rfl rfl)
theorem dX2_processBlock_40 : decode cX2_processBlock 40 = .ok (.iadd, 1) := dk_96 (dk_at dksX2_processBlock_1 17 rfl rfl)
theorem dX2_processBlock_41 : decode cX2_processBlock 41 = .ok (.aload_n 3, 1) := dk_45 (dk_at dksX2_processBlock_1 18 rfl rfl)
theorem dX2_processBlock_42 : decode cX2_processBlock 42 = .ok (.arraylength, 1) := dk_190 (dk_at dksX2_processBlock_1 19 rfl rfl)
theorem dX2_processBlock_43 : decode cX2_processBlock 43 = .ok (.if_icmp .le 13, 3) := dk_164 0 13 (dk_at dksX2_processBlock_1 20 rfl rfl)
theorem dX2_processBlock_46 : decode cX2_processBlock 46 = .ok (.new 43, 3) := dk_187 0 43 (dk_at dksX2_processBlock_2 0 rfl rfl)
theorem dX2_processBlock_49 : decode cX2_processBlock 49 = .ok (.dup, 1) := dk_89 (dk_at dksX2_processBlock_2 3 rfl rfl)
theorem dX2_processBlock_50 : decode cX2_processBlock 50 = .ok (.ldc 45, 2) := dk_18 45 (dk_at dksX2_processBlock_2 4 rfl rfl)
theorem dX2_processBlock_52 : decode cX2_processBlock 52 = .ok (.invokespecial 47, 3) := dk_183 0 47 (dk_at dksX2_processBlock_2 6 rfl rfl)
theorem dX2_processBlock_55 : decode cX2_processBlock 55 = .ok (.athrow, 1) := dk_191 (dk_at dksX2_processBlock_2 9 rfl rfl)
theorem dX2_processBlock_56 : decode cX2_processBlock 56 = .ok (.aload_n 0, 1) := dk_42 (dk_at dksX2_processBlock_2 10 rfl rfl)
theorem dX2_processBlock_57 : decode cX2_processBlock 57 = .ok (.aload_n 1, 1) := dk_43 (dk_at dksX2_processBlock_2 11 rfl rfl)
theorem dX2_processBlock_58 : decode cX2_processBlock 58 = .ok (.iload_n 2, 1) := dk_28 (dk_at dksX2_processBlock_2 12 rfl rfl)
theorem dX2_processBlock_59 : decode cX2_processBlock 59 = .ok (.iconst 0, 1) := dk_3 (dk_at dksX2_processBlock_2 13 rfl rfl)
theorem dX2_processBlock_60 : decode cX2_processBlock 60 = .ok (.iadd, 1) := dk_96 (dk_at dksX2_processBlock_2 14 rfl rfl)
theorem dX2_processBlock_61 : decode cX2_processBlock 61 = .ok (.invokevirtual 48, 3) := dk_182 0 48 (dk_at dksX2_processBlock_2 15 rfl rfl)
theorem dX2_processBlock_64 : decode cX2_processBlock 64 = .ok (.lstore 5, 2) := dk_55 5 (dk_at dksX2_processBlock_2 18 rfl rfl)
theorem dX2_processBlock_66 : decode cX2_processBlock 66 = .ok (.aload_n 0, 1) := dk_42 (dk_at dksX2_processBlock_2 20 rfl rfl)
theorem dX2_processBlock_67 : decode cX2_processBlock 67 = .ok (.aload_n 1, 1) := dk_43 (dk_at dksX2_processBlock_2 21 rfl rfl)
theorem dX2_processBlock_68 : decode cX2_processBlock 68 = .ok (.iload_n 2, 1) := dk_28 (dk_at dksX2_processBlock_2 22 rfl rfl)
theorem dX2_processBlock_69 : decode cX2_processBlock 69 = .ok (.bipush 8, 2) := dk_16 8 (dk_at dksX2_processBlock_3 0 rfl rfl)
theorem dX2_processBlock_71 : decode cX2_processBlock 71 = .ok (.iadd, 1) := dk_96 (dk_at dksX2_processBlock_3 2 rfl rfl)
theorem dX2_processBlock_72 : decode cX2_processBlock 72 = .ok (.invokevirtual 48, 3) := dk_182 0 48 (dk_at dksX2_processBlock_3 3 rfl rfl)
theorem dX2_processBlock_75 : decode cX2_processBlock 75 = .ok (.lstore 7, 2) := dk_55 7 (dk_at dksX2_processBlock_3 6 rfl rfl)
theorem dX2_processBlock_77 : decode cX2_processBlock 77 = .ok (.aload_n 0, 1) := dk_42 (dk_at dksX2_processBlock_3 8 rfl rfl)
theorem dX2_processBlock_78 : decode cX2_processBlock 78 = .ok (.getfield 13, 3) := dk_180 0 13 (dk_at dksX2_processBlock_3 9 rfl rfl)
theorem dX2_processBlock_81 : decode cX2_processBlock 81 = .ok (.ifCond .eq 61, 3) := dk_153 0 61 (dk_at dksX2_processBlock_3 12 rfl rfl)
theorem dX2_processBlock_84 : decode cX2_processBlock 84 = .ok (.iconst 0, 1) := dk_3 (dk_at dksX2_processBlock_3 15 rfl rfl)
theorem dX2_processBlock_85 : decode cX2_processBlock 85 = .ok (.istore 9, 2) := dk_54 9 (dk_at dksX2_processBlock_3 16 rfl rfl)
theorem dX2_processBlock_87 : decode cX2_processBlock 87 = .ok (.iload 9, 2) := dk_21 9 (dk_at dksX2_processBlock_3 18 rfl rfl)
theorem dX2_processBlock_89 : decode cX2_processBlock 89 = .ok (.bipush 16, 2) := dk_16 16 (dk_at dksX2_processBlock_3 20 rfl rfl)
theorem dX2_processBlock_91 : decode cX2_processBlock 91 = .ok (.if_icmp .ge 48, 3) := dk_162 0 48 (dk_at dksX2_processBlock_4 0 rfl rfl)
theorem dX2_processBlock_94 : decode cX2_processBlock 94 = .ok (.lload 7, 2) := dk_22 7 (dk_at dksX2_processBlock_4 3 rfl rfl)
theorem dX2_processBlock_96 : decode cX2_processBlock 96 = .ok (.lstore 10, 2) := dk_55 10 (dk_at dksX2_processBlock_4 5 rfl rfl)
theorem dX2_processBlock_98 : decode cX2_processBlock 98 = .ok (.lload 5, 2) := dk_22 5 (dk_at dksX2_processBlock_4 7 rfl rfl)
theorem dX2_processBlock_100 : decode cX2_processBlock 100 = .ok (.aload_n 0, 1) := dk_42 (dk_at dksX2_processBlock_4 9 rfl rfl)
theorem dX2_processBlock_101 : decode cX2_processBlock 101 = .ok (.aload_n 0, 1) := dk_42 (dk_at dksX2_processBlock_4 10 rfl rfl)
theorem dX2_processBlock_102 : decode cX2_processBlock 102 = .ok (.getfield 27, 3) := dk_180 0 27 (dk_at dksX2_processBlock_4 11 rfl rfl)
theorem dX2_processBlock_105 : decode cX2_processBlock 105 = .ok (.iconst 2, 1) := dk_5 (dk_at dksX2_processBlock_4 14 rfl rfl)
theorem dX2_processBlock_106 : decode cX2_processBlock 106 = .ok (.iload 9, 2) := dk_21 9 (dk_at dksX2_processBlock_4 15 rfl rfl)
theorem dX2_processBlock_108 : decode cX2_processBlock 108 = .ok (.imul, 1) := dk_104 (dk_at dksX2_processBlock_4 17 rfl rfl)
theorem dX2_processBlock_109 : decode cX2_processBlock 109 = .ok (.iaload, 1) := dk_46 (dk_at dksX2_processBlock_4 18 rfl rfl)
theorem dX2_processBlock_110 : decode cX2_processBlock 110 = .ok (.aload_n 0, 1) := dk_42 (dk_at dksX2_processBlock_4 19 rfl rfl)
theorem dX2_processBlock_111 : decode cX2_processBlock 111 = .ok (.getfield 27, 3) := dk_180 0 27 (dk_at dksX2_processBlock_4 20 rfl rfl)
theorem dX2_processBlock_114 : decode cX2_processBlock 114 = .ok (.iconst 2, 1) := dk_5 (dk_at dksX2_processBlock_4 23 rfl rfl)
theorem dX2_processBlock_115 : decode cX2_processBlock 115 = .ok (.iload 9, 2) := dk_21 9 (dk_at dksX2_processBlock_5 0 rfl rfl)
theorem dX2_processBlock_117 : decode cX2_processBlock 117 = .ok (.imul, 1) := dk_104 (dk_at dksX2_processBlock_5 2 rfl rfl)
theorem dX2_processBlock_118 : decode cX2_processBlock 118 = .ok (.iconst 1, 1) := dk_4 (dk_at dksX2_processBlock_5 3 rfl rfl)
theorem dX2_processBlock_119 : decode cX2_processBlock 119 = .ok (.iadd, 1) := dk_96 (dk_at dksX2_processBlock_5 4 rfl rfl)
theorem dX2_processBlock_120 : decode cX2_processBlock 120 = .ok (.iaload, 1) := dk_46 (dk_at dksX2_processBlock_5 5 rfl rfl)
theorem dX2_processBlock_121 : decode cX2_processBlock 121 = .ok (.lload 7, 2) := dk_22 7 (dk_at dksX2_processBlock_5 6 rfl rfl)
theorem dX2_processBlock_123 : decode cX2_processBlock 123 = .ok (.invokevirtual 52, 3) := dk_182 0 52 (dk_at dksX2_processBlock_5 8 rfl rfl)
theorem dX2_processBlock_126 : decode cX2_processBlock 126 = .ok (.lxor, 1) := dk_131 (dk_at dksX2_processBlock_5 11 rfl rfl)
theorem dX2_processBlock_127 : decode cX2_processBlock 127 = .ok (.lstore 7, 2) := dk_55 7 (dk_at dksX2_processBlock_5 12 rfl rfl)
theorem dX2_processBlock_129 : decode cX2_processBlock 129 = .ok (.lload 10, 2) := dk_22 10 (dk_at dksX2_processBlock_5 14 rfl rfl)
theorem dX2_processBlock_131 : decode cX2_processBlock 131 = .ok (.lstore 5, 2) := dk_55 5 (dk_at dksX2_processBlock_5 16 rfl rfl)
theorem dX2_processBlock_133 : decode cX2_processBlock 133 = .ok (.iinc 9 1, 3) := dk_132 9 1 (dk_at dksX2_processBlock_5 18 rfl rfl)
theorem dX2_processBlock_136 : decode cX2_processBlock 136 = .ok (.goto (-49), 3) := dk_167 255 207 (dk_at dksX2_processBlock_5 21 rfl rfl)
theorem dX2_processBlock_139 : decode cX2_processBlock 139 = .ok (.goto 57, 3) := dk_167 0 57 (dk_at dksX2_processBlock_6 0 rfl rfl)
theorem dX2_processBlock_142 : decode cX2_processBlock 142 = .ok (.bipush 15, 2) := dk_16 15 (dk_at dksX2_processBlock_6 3 rfl rfl)
theorem dX2_processBlock_144 : decode cX2_processBlock 144 = .ok (.istore 9, 2) := dk_54 9 (dk_at dksX2_processBlock_6 5 rfl rfl)
theorem dX2_processBlock_146 : decode cX2_processBlock 146 = .ok (.iload 9, 2) := dk_21 9 (dk_at dksX2_processBlock_6 7 rfl rfl)
theorem dX2_processBlock_148 : decode cX2_processBlock 148 = .ok (.ifCond .lt 48, 3) := dk_155 0 48 (dk_at dksX2_processBlock_6 9 rfl rfl)
theorem dX2_processBlock_151 : decode cX2_processBlock 151 = .ok (.lload 7, 2) := dk_22 7 (dk_at dksX2_processBlock_6 12 rfl rfl)
theorem dX2_processBlock_153 : decode cX2_processBlock 153 = .ok (.lstore 10, 2) := dk_55 10 (dk_at dksX2_processBlock_6 14 rfl rfl)
theorem dX2_processBlock_155 : decode cX2_processBlock 155 = .ok (.lload 5, 2) := dk_22 5 (dk_at dksX2_processBlock_6 16 rfl rfl)
theorem dX2_processBlock_157 : decode cX2_processBlock 157 = .ok (.aload_n 0, 1) := dk_42 (dk_at dksX2_processBlock_6 18 rfl rfl)
theorem dX2_processBlock_158 : decode cX2_processBlock 158 = .ok (.aload_n 0, 1) := dk_42 (dk_at dksX2_processBlock_6 19 rfl rfl)
theorem dX2_processBlock_159 : decode cX2_processBlock 159 = .ok (.getfield 27, 3) := dk_180 0 27 (dk_at dksX2_processBlock_6 20 rfl rfl)
theorem dX2_processBlock_162 : decode cX2_processBlock 162 = .ok (.iconst 2, 1) := dk_5 (dk_at dksX2_processBlock_6 23 rfl rfl)
theorem dX2_processBlock_163 : decode cX2_processBlock 163 = .ok (.iload 9, 2) := dk_21 9 (dk_at dksX2_processBlock_7 0 rfl rfl)
theorem dX2_processBlock_165 : decode cX2_processBlock 165 = .ok (.imul, 1) := dk_104 (dk_at dksX2_processBlock_7 2 rfl rfl)
theorem dX2_processBlock_166 : decode cX2_processBlock 166 = .ok (.iaload, 1) := dk_46 (dk_at dksX2_processBlock_7 3 rfl rfl)
theorem dX2_processBlock_167 : decode cX2_processBlock 167 = .ok (.aload_n 0, 1) := dk_42 (dk_at dksX2_processBlock_7 4 rfl rfl)
theorem dX2_processBlock_168 : decode cX2_processBlock 168 = .ok (.getfield 27, 3) := dk_180 0 27 (dk_at dksX2_processBlock_7 5 rfl rfl)
theorem dX2_processBlock_171 : decode cX2_processBlock 171 = .ok (.iconst 2, 1) := dk_5 (dk_at dksX2_processBlock_7 8 rfl rfl)
theorem dX2_processBlock_172 : decode cX2_processBlock 172 = .ok (.iload 9, 2) := dk_21 9 (dk_at dksX2_processBlock_7 9 rfl rfl)
theorem dX2_processBlock_174 : decode cX2_processBlock 174 = .ok (.imul, 1) := dk_104 (dk_at dksX2_processBlock_7 11 rfl rfl)
theorem dX2_processBlock_175 : decode cX2_processBlock 175 = .ok (.iconst 1, 1) := dk_4 (dk_at dksX2_processBlock_7 12 rfl rfl)
theorem dX2_processBlock_176 : decode cX2_processBlock 176 = .ok (.iadd, 1) := dk_96 (dk_at dksX2_processBlock_7 13 rfl rfl)
theorem dX2_processBlock_177 : decode cX2_processBlock 177 = .ok (.iaload, 1) := dk_46 (dk_at dksX2_processBlock_7 14 rfl rfl)
theorem dX2_processBlock_178 : decode cX2_processBlock 178 = .ok (.lload 7, 2) := dk_22 7 (dk_at dksX2_processBlock_7 15 rfl rfl)
theorem dX2_processBlock_180 : decode cX2_processBlock 180 = .ok (.invokevirtual 52, 3) := dk_182 0 52 (dk_at dksX2_processBlock_7 17 rfl rfl)
theorem dX2_processBlock_183 : decode cX2_processBlock 183 = .ok (.lxor, 1) := dk_131 (dk_at dksX2_processBlock_7 20 rfl rfl)
theorem dX2_processBlock_184 : decode cX2_processBlock 184 = .ok (.lstore 7, 2) := dk_55 7 (dk_at dksX2_processBlock_7 21 rfl rfl)
theorem dX2_processBlock_186 : decode cX2_processBlock 186 = .ok (.lload 10, 2) := dk_22 10 (dk_at dksX2_processBlock_8 0 rfl rfl)
theorem dX2_processBlock_188 : decode cX2_processBlock 188 = .ok (.lstore 5, 2) := dk_55 5 (dk_at dksX2_processBlock_8 2 rfl rfl)
theorem dX2_processBlock_190 : decode cX2_processBlock 190 = .ok (.iinc 9 (-1), 3) := dk_132 9 255 (dk_at dksX2_processBlock_8 4 rfl rfl)
theorem dX2_processBlock_193 : decode cX2_processBlock 193 = .ok (.goto (-47), 3) := dk_167 255 209 (dk_at dksX2_processBlock_8 7 rfl rfl)
theorem dX2_processBlock_196 : decode cX2_processBlock 196 = .ok (.aload_n 0, 1) := dk_42 (dk_at dksX2_processBlock_8 10 rfl rfl)
theorem dX2_processBlock_197 : decode cX2_processBlock 197 = .ok (.aload_n 3, 1) := dk_45 (dk_at dksX2_processBlock_8 11 rfl rfl)
theorem dX2_processBlock_198 : decode cX2_processBlock 198 = .ok (.iload 4, 2) := dk_21 4 (dk_at dksX2_processBlock_8 12 rfl rfl)
theorem dX2_processBlock_200 : decode cX2_processBlock 200 = .ok (.iconst 0, 1) := dk_3 (dk_at dksX2_processBlock_8 14 rfl rfl)
theorem dX2_processBlock_201 : decode cX2_processBlock 201 = .ok (.iadd, 1) := dk_96 (dk_at dksX2_processBlock_8 15 rfl rfl)
theorem dX2_processBlock_202 : decode cX2_processBlock 202 = .ok (.lload 7, 2) := dk_22 7 (dk_at dksX2_processBlock_8 16 rfl rfl)
theorem dX2_processBlock_204 : decode cX2_processBlock 204 = .ok (.invokevirtual 56, 3) := dk_182 0 56 (dk_at dksX2_processBlock_8 18 rfl rfl)
theorem dX2_processBlock_207 : decode cX2_processBlock 207 = .ok (.aload_n 0, 1) := dk_42 (dk_at dksX2_processBlock_8 21 rfl rfl)
theorem dX2_processBlock_208 : decode cX2_processBlock 208 = .ok (.aload_n 3, 1) := dk_45 (dk_at dksX2_processBlock_8 22 rfl rfl)
theorem dX2_processBlock_209 : decode cX2_processBlock 209 = .ok (.iload 4, 2) := dk_21 4 (dk_at dksX2_processBlock_9 0 rfl rfl)
theorem dX2_processBlock_211 : decode cX2_processBlock 211 = .ok (.bipush 8, 2) := dk_16 8 (dk_at dksX2_processBlock_9 2 rfl rfl)
theorem dX2_processBlock_213 : decode cX2_processBlock 213 = .ok (.iadd, 1) := dk_96 (dk_at dksX2_processBlock_9 4 rfl rfl)
theorem dX2_processBlock_214 : decode cX2_processBlock 214 = .ok (.lload 5, 2) := dk_22 5 (dk_at dksX2_processBlock_9 5 rfl rfl)
theorem dX2_processBlock_216 : decode cX2_processBlock 216 = .ok (.invokevirtual 56, 3) := dk_182 0 56 (dk_at dksX2_processBlock_9 7 rfl rfl)
theorem dX2_processBlock_219 : decode cX2_processBlock 219 = .ok (.bipush 16, 2) := dk_16 16 (dk_at dksX2_processBlock_9 10 rfl rfl)
theorem dX2_processBlock_221 : decode cX2_processBlock 221 = .ok (.ireturn, 1) := dk_172 (dk_at dksX2_processBlock_9 12 rfl rfl)
abbrev cX2_F : ByteArray := prog_7_method_12_code
def yX2_F : MethodName := ⟨RX2, "F", "(IIJ)J"⟩
def dkwX2_F_2 : List UInt8 := [20, 0, 105, 127, 129, 173]
abbrev dktX2_F_2 : List UInt8 := dkwX2_F_2 ++ []
def dkwX2_F_1 : List UInt8 := [21, 7, 42, 21, 5, 27, 21, 6, 28, 182, 0, 102, 96, 54, 8, 21, 8, 133, 16, 32, 121, 21, 7, 133]
abbrev dktX2_F_1 : List UInt8 := dkwX2_F_1 ++ dktX2_F_2
def dkwX2_F_0 : List UInt8 := [33, 16, 32, 123, 136, 54, 5, 33, 136, 54, 6, 42, 21, 5, 27, 21, 6, 28, 182, 0, 98, 54, 7]
abbrev dktX2_F_0 : List UInt8 := dkwX2_F_0 ++ dktX2_F_1
theorem dksX2_F_0 : cX2_F.data.toList.drop 0 = dktX2_F_0 := by decide +kernel
theorem dksX2_F_1 : cX2_F.data.toList.drop 23 = dktX2_F_1 := dk_seg dksX2_F_0 23 rfl rfl
theorem dksX2_F_2 : cX2_F.data.toList.drop 47 = dktX2_F_2 := dk_seg dksX2_F_1 24 rfl rfl
theorem dX2_F_0 : decode cX2_F 0 = .ok (.lload_n 3, 1) := dk_33 (dk_at dksX2_F_0 0 rfl rfl)
theorem dX2_F_1 : decode cX2_F 1 = .ok (.bipush 32, 2) := dk_16 32 (dk_at dksX2_F_0 1 rfl rfl)
theorem dX2_F_3 : decode cX2_F 3 = .ok (.lshr, 1) := dk_123 (dk_at dksX2_F_0 3 rfl rfl)
theorem dX2_F_4 : decode cX2_F 4 = .ok (.l2i, 1) := dk_136 (dk_at dksX2_F_0 4 rfl rfl)
theorem dX2_F_5 : decode cX2_F 5 = .ok (.istore 5, 2) := dk_54 5 (dk_at dksX2_F_0 5 rfl rfl)
theorem dX2_F_7 : decode cX2_F 7 = .ok (.lload_n 3, 1) := dk_33 (dk_at dksX2_F_0 7 rfl rfl)
theorem dX2_F_8 : decode cX2_F 8 = .ok (.l2i, 1) := dk_136 (dk_at dksX2_F_0 8 rfl rfl)
theorem dX2_F_9 : decode cX2_F 9 = .ok (.istore 6, 2) := dk_54 6 (dk_at dksX2_F_0 9 rfl rfl)
theorem dX2_F_11 : decode cX2_F 11 = .ok (.aload_n 0, 1) := dk_42 (dk_at dksX2_F_0 11 rfl rfl)
theorem dX2_F_12 : decode cX2_F 12 = .ok (.iload 5, 2) := dk_21 5 (dk_at dksX2_F_0 12 rfl rfl)
theorem dX2_F_14 : decode cX2_F 14 = .ok (.iload_n 1, 1) := dk_27 (dk_at dksX2_F_0 14 rfl rfl)
theorem dX2_F_15 : decode cX2_F 15 = .ok (.iload 6, 2) := dk_21 6 (dk_at dksX2_F_0 15 rfl rfl)
theorem dX2_F_17 : decode cX2_F 17 = .ok (.iload_n 2, 1) := dk_28 (dk_at dksX2_F_0 17 rfl rfl)
theorem dX2_F_18 : decode cX2_F 18 = .ok (.invokevirtual 98, 3) := dk_182 0 98 (dk_at dksX2_F_0 18 rfl rfl)
theorem dX2_F_21 : decode cX2_F 21 = .ok (.istore 7, 2) := dk_54 7 (dk_at dksX2_F_0 21 rfl rfl)
theorem dX2_F_23 : decode cX2_F 23 = .ok (.iload 7, 2) := dk_21 7 (dk_at dksX2_F_1 0 rfl rfl)
theorem dX2_F_25 : decode cX2_F 25 = .ok (.aload_n 0, 1) := dk_42 (dk_at dksX2_F_1 2 rfl rfl)
theorem dX2_F_26 : decode cX2_F 26 = .ok (.iload 5, 2) := dk_21 5 (dk_at dksX2_F_1 3 rfl rfl)
theorem dX2_F_28 : decode cX2_F 28 = .ok (.iload_n 1, 1) := dk_27 (dk_at dksX2_F_1 5 rfl rfl)
theorem dX2_F_29 : decode cX2_F 29 = .ok (.iload 6, 2) := dk_21 6 (dk_at dksX2_F_1 6 rfl rfl)
theorem dX2_F_31 : decode cX2_F 31 = .ok (.iload_n 2, 1) := dk_28 (dk_at dksX2_F_1 8 rfl rfl)
theorem dX2_F_32 : decode cX2_F 32 = .ok (.invokevirtual 102, 3) := dk_182 0 102 (dk_at dksX2_F_1 9 rfl rfl)
theorem dX2_F_35 : decode cX2_F 35 = .ok (.iadd, 1) := dk_96 (dk_at dksX2_F_1 12 rfl rfl)
theorem dX2_F_36 : decode cX2_F 36 = .ok (.istore 8, 2) := dk_54 8 (dk_at dksX2_F_1 13 rfl rfl)
theorem dX2_F_38 : decode cX2_F 38 = .ok (.iload 8, 2) := dk_21 8 (dk_at dksX2_F_1 15 rfl rfl)
theorem dX2_F_40 : decode cX2_F 40 = .ok (.i2l, 1) := dk_133 (dk_at dksX2_F_1 17 rfl rfl)
theorem dX2_F_41 : decode cX2_F 41 = .ok (.bipush 32, 2) := dk_16 32 (dk_at dksX2_F_1 18 rfl rfl)
theorem dX2_F_43 : decode cX2_F 43 = .ok (.lshl, 1) := dk_121 (dk_at dksX2_F_1 20 rfl rfl)
theorem dX2_F_44 : decode cX2_F 44 = .ok (.iload 7, 2) := dk_21 7 (dk_at dksX2_F_1 21 rfl rfl)
theorem dX2_F_46 : decode cX2_F 46 = .ok (.i2l, 1) := dk_133 (dk_at dksX2_F_1 23 rfl rfl)
theorem dX2_F_47 : decode cX2_F 47 = .ok (.ldc2_w 105, 3) := dk_20 0 105 (dk_at dksX2_F_2 0 rfl rfl)
theorem dX2_F_50 : decode cX2_F 50 = .ok (.land, 1) := dk_127 (dk_at dksX2_F_2 3 rfl rfl)
theorem dX2_F_51 : decode cX2_F 51 = .ok (.lor, 1) := dk_129 (dk_at dksX2_F_2 4 rfl rfl)
theorem dX2_F_52 : decode cX2_F 52 = .ok (.lreturn, 1) := dk_173 (dk_at dksX2_F_2 5 rfl rfl)
abbrev cX2_phaseCalc2 : ByteArray := prog_7_method_14_code
def yX2_phaseCalc2 : MethodName := ⟨RX2, "phaseCalc2", "(IIII)I"⟩
def dkwX2_phaseCalc2_1 : List UInt8 := [182, 0, 75, 172]
abbrev dktX2_phaseCalc2_1 : List UInt8 := dkwX2_phaseCalc2_1 ++ []
def dkwX2_phaseCalc2_0 : List UInt8 := [42, 42, 27, 28, 29, 21, 4, 182, 0, 102, 42, 27, 28, 130, 29, 21, 4, 130, 130, 182, 0, 75, 96]
abbrev dktX2_phaseCalc2_0 : List UInt8 := dkwX2_phaseCalc2_0 ++ dktX2_phaseCalc2_1
theorem dksX2_phaseCalc2_0 : cX2_phaseCalc2.data.toList.drop 0 = dktX2_phaseCalc2_0 := by decide +kernel
theorem dksX2_phaseCalc2_1 : cX2_phaseCalc2.data.toList.drop 23 = dktX2_phaseCalc2_1 := dk_seg dksX2_phaseCalc2_0 23 rfl rfl
theorem dX2_phaseCalc2_0 : decode cX2_phaseCalc2 0 = .ok (.aload_n 0, 1) := dk_42 (dk_at dksX2_phaseCalc2_0 0 rfl rfl)
theorem dX2_phaseCalc2_1 : decode cX2_phaseCalc2 1 = .ok (.aload_n 0, 1) := dk_42 (dk_at dksX2_phaseCalc2_0 1 rfl rfl)
theorem dX2_phaseCalc2_2 : decode cX2_phaseCalc2 2 = .ok (.iload_n 1, 1) := dk_27 (dk_at dksX2_phaseCalc2_0 2 rfl rfl)
theorem dX2_phaseCalc2_3 : decode cX2_phaseCalc2 3 = .ok (.iload_n 2, 1) := dk_28 (dk_at dksX2_phaseCalc2_0 3 rfl rfl)
theorem dX2_phaseCalc2_4 : decode cX2_phaseCalc2 4 = .ok (.iload_n 3, 1) := dk_29 (dk_at dksX2_phaseCalc2_0 4 rfl rfl)
theorem dX2_phaseCalc2_5 : decode cX2_phaseCalc2 5 = .ok (.iload 4, 2) := dk_21 4 (dk_at dksX2_phaseCalc2_0 5 rfl rfl)
theorem dX2_phaseCalc2_7 : decode cX2_phaseCalc2 7 = .ok (.invokevirtual 102, 3) := dk_182 0 102 (dk_at dksX2_phaseCalc2_0 7 rfl rfl)
theorem dX2_phaseCalc2_10 : decode cX2_phaseCalc2 10 = .ok (.aload_n 0, 1) := dk_42 (dk_at dksX2_phaseCalc2_0 10 rfl rfl)
theorem dX2_phaseCalc2_11 : decode cX2_phaseCalc2 11 = .ok (.iload_n 1, 1) := dk_27 (dk_at dksX2_phaseCalc2_0 11 rfl rfl)
theorem dX2_phaseCalc2_12 : decode cX2_phaseCalc2 12 = .ok (.iload_n 2, 1) := dk_28 (dk_at dksX2_phaseCalc2_0 12 rfl rfl)
theorem dX2_phaseCalc2_13 : decode cX2_phaseCalc2 13 = .ok (.ixor, 1) := dk_130 (dk_at dksX2_phaseCalc2_0 13 rfl rfl)
theorem dX2_phaseCalc2_14 : decode cX2_phaseCalc2 14 = .ok (.iload_n 3, 1) := dk_29 (dk_at dksX2_phaseCalc2_0 14 rfl rfl)
theorem dX2_phaseCalc2_15 : decode cX2_phaseCalc2 15 = .ok (.iload 4, 2) := dk_21 4 (dk_at dksX2_phaseCalc2_0 15 rfl rfl)
theorem dX2_phaseCalc2_17 : decode cX2_phaseCalc2 17 = .ok (.ixor, 1) := dk_130 (dk_at dksX2_phaseCalc2_0 17 rfl rfl)
theorem dX2_phaseCalc2_18 : decode cX2_phaseCalc2 18 = .ok (.ixor, 1) := dk_130 (dk_at dksX2_phaseCalc2_0 18 rfl rfl)
theorem dX2_phaseCalc2_19 : decode cX2_phaseCalc2 19 = .ok (.invokevirtual 75, 3) := dk_182 0 75 (dk_at dksX2_phaseCalc2_0 19 rfl rfl)
theorem dX2_phaseCalc2_22 : decode cX2_phaseCalc2 22 = .ok (.iadd, 1) := dk_96 (dk_at dksX2_phaseCalc2_0 22 rfl rfl)
theorem dX2_phaseCalc2_23 : decode cX2_phaseCalc2 23 = .ok (.invokevirtual 75, 3) := dk_182 0 75 (dk_at dksX2_phaseCalc2_1 0 rfl rfl)
theorem dX2_phaseCalc2_26 : decode cX2_phaseCalc2 26 = .ok (.ireturn, 1) := dk_172 (dk_at dksX2_phaseCalc2_1 3 rfl rfl)
abbrev cX2_phaseCalc1 : ByteArray := prog_7_method_13_code
def yX2_phaseCalc1 : MethodName := ⟨RX2, "phaseCalc1", "(IIII)I"⟩
def dkwX2_phaseCalc1_0 : List UInt8 := [42, 42, 27, 28, 130, 29, 21, 4, 130, 130, 182, 0, 75, 27, 28, 130, 96, 182, 0, 75, 172]
abbrev dktX2_phaseCalc1_0 : List UInt8 := dkwX2_phaseCalc1_0 ++ []
theorem dksX2_phaseCalc1_0 : cX2_phaseCalc1.data.toList.drop 0 = dktX2_phaseCalc1_0 := by decide +kernel
theorem dX2_phaseCalc1_0 : decode cX2_phaseCalc1 0 = .ok (.aload_n 0, 1) := dk_42 (dk_at dksX2_phaseCalc1_0 0 rfl rfl)
theorem dX2_phaseCalc1_1 : decode cX2_phaseCalc1 1 = .ok (.aload_n 0, 1) := dk_42 (dk_at dksX2_phaseCalc1_0 1 rfl rfl)
theorem dX2_phaseCalc1_2 : decode cX2_phaseCalc1 2 = .ok (.iload_n 1, 1) := dk_27 (dk_at dksX2_phaseCalc1_0 2 rfl rfl)
theorem dX2_phaseCalc1_3 : decode cX2_phaseCalc1 3 = .ok (.iload_n 2, 1) := dk_28 (dk_at dksX2_phaseCalc1_0 3 rfl rfl)
theorem dX2_phaseCalc1_4 : decode cX2_phaseCalc1 4 = .ok (.ixor, 1) := dk_130 (dk_at dksX2_phaseCalc1_0 4 rfl rfl)
theorem dX2_phaseCalc1_5 : decode cX2_phaseCalc1 5 = .ok (.iload_n 3, 1) := dk_29 (dk_at dksX2_phaseCalc1_0 5 rfl rfl)
theorem dX2_phaseCalc1_6 : decode cX2_phaseCalc1 6 = .ok (.iload 4, 2) := dk_21 4 (dk_at dksX2_phaseCalc1_0 6 rfl rfl)
theorem dX2_phaseCalc1_8 : decode cX2_phaseCalc1 8 = .ok (.ixor, 1) := dk_130 (dk_at dksX2_phaseCalc1_0 8 rfl rfl)
theorem dX2_phaseCalc1_9 : decode cX2_phaseCalc1 9 = .ok (.ixor, 1) := dk_130 (dk_at dksX2_phaseCalc1_0 9 rfl rfl)
theorem dX2_phaseCalc1_10 : decode cX2_phaseCalc1 10 = .ok (.invokevirtual 75, 3) := dk_182 0 75 (dk_at dksX2_phaseCalc1_0 10 rfl rfl)
theorem dX2_phaseCalc1_13 : decode cX2_phaseCalc1 13 = .ok (.iload_n 1, 1) := dk_27 (dk_at dksX2_phaseCalc1_0 13 rfl rfl)
theorem dX2_phaseCalc1_14 : decode cX2_phaseCalc1 14 = .ok (.iload_n 2, 1) := dk_28 (dk_at dksX2_phaseCalc1_0 14 rfl rfl)
theorem dX2_phaseCalc1_15 : decode cX2_phaseCalc1 15 = .ok (.ixor, 1) := dk_130 (dk_at dksX2_phaseCalc1_0 15 rfl rfl)
theorem dX2_phaseCalc1_16 : decode cX2_phaseCalc1 16 = .ok (.iadd, 1) := dk_96 (dk_at dksX2_phaseCalc1_0 16 rfl rfl)
theorem dX2_phaseCalc1_17 : decode cX2_phaseCalc1 17 = .ok (.invokevirtual 75, 3) := dk_182 0 75 (dk_at dksX2_phaseCalc1_0 17 rfl rfl)
theorem dX2_phaseCalc1_20 : decode cX2_phaseCalc1 20 = .ok (.ireturn, 1) := dk_172 (dk_at dksX2_phaseCalc1_0 20 rfl rfl)
abbrev cX2_longToBytes : ByteArray := prog_7_method_10_code
def yX2_longToBytes : MethodName := ⟨RX2, "longToBytes", "([BIJ)V"⟩
def dkwX2_longToBytes_1 : List UInt8 := [123, 136, 145, 84, 132, 5, 1, 167, 255, 228, 177]
abbrev dktX2_longToBytes_1 : List UInt8 := dkwX2_longToBytes_1 ++ []
def dkwX2_longToBytes_0 : List UInt8 := [3, 54, 5, 21, 5, 16, 8, 162, 0, 27, 43, 21, 5, 28, 96, 33, 16, 7, 21, 5, 100, 16, 8, 104]
abbrev dktX2_longToBytes_0 : List UInt8 := dkwX2_longToBytes_0 ++ dktX2_longToBytes_1
theorem dksX2_longToBytes_0 : cX2_longToBytes.data.toList.drop 0 = dktX2_longToBytes_0 := by decide +kernel
theorem dksX2_longToBytes_1 : cX2_longToBytes.data.toList.drop 24 = dktX2_longToBytes_1 := dk_seg dksX2_longToBytes_0 24 rfl rfl
theorem dX2_longToBytes_0 : decode cX2_longToBytes 0 = .ok (.iconst 0, 1) := dk_3 (dk_at dksX2_longToBytes_0 0 rfl rfl)
theorem dX2_longToBytes_1 : decode cX2_longToBytes 1 = .ok (.istore 5, 2) := dk_54 5 (dk_at dksX2_longToBytes_0 1 rfl rfl)
theorem dX2_longToBytes_3 : decode cX2_longToBytes 3 = .ok (.iload 5, 2) := dk_21 5 (dk_at dksX2_longToBytes_0 3 rfl rfl)
theorem dX2_longToBytes_5 : decode cX2_longToBytes 5 = .ok (.bipush 8, 2) := dk_16 8 (dk_at dksX2_longToBytes_0 5 rfl rfl)
theorem dX2_longToBytes_7 : decode cX2_longToBytes 7 = .ok (.if_icmp .ge 27, 3) := dk_162 0 27 (dk_at dksX2_longToBytes_0 7 rfl rfl)
theorem dX2_longToBytes_10 : decode cX2_longToBytes 10 = .ok (.aload_n 1, 1) := dk_43 (dk_at dksX2_longToBytes_0 10 rfl rfl)
theorem dX2_longToBytes_11 : decode cX2_longToBytes 11 = .ok (.iload 5, 2) := dk_21 5 (dk_at dksX2_longToBytes_0 11 rfl rfl)
theorem dX2_longToBytes_13 : decode cX2_longToBytes 13 = .ok (.iload_n 2, 1) := dk_28 (dk_at dksX2_longToBytes_0 13 rfl rfl)
theorem dX2_longToBytes_14 : decode cX2_longToBytes 14 = .ok (.iadd, 1) := dk_96 (dk_at dksX2_longToBytes_0 14 rfl rfl)
theorem dX2_longToBytes_15 : decode cX2_longToBytes 15 = .ok (.lload_n 3, 1) := dk_33 (dk_at dksX2_longToBytes_0 15 rfl rfl)
theorem dX2_longToBytes_16 : decode cX2_longToBytes 16 = .ok (.bipush 7, 2) := dk_16 7 (dk_at dksX2_longToBytes_0 16 rfl rfl)
theorem dX2_longToBytes_18 : decode cX2_longToBytes 18 = .ok (.iload 5, 2) := dk_21 5 (dk_at dksX2_longToBytes_0 18 rfl rfl)
theorem dX2_longToBytes_20 : decode cX2_longToBytes 20 = .ok (.isub, 1) := dk_100 (dk_at dksX2_longToBytes_0 20 rfl rfl)
theorem dX2_longToBytes_21 : decode cX2_longToBytes 21 = .ok (.bipush 8, 2) := dk_16 8 (dk_at dksX2_longToBytes_0 21 rfl rfl)
theorem dX2_longToBytes_23 : decode cX2_longToBytes 23 = .ok (.imul, 1) := dk_104 (dk_at dksX2_longToBytes_0 23 rfl rfl)
theorem dX2_longToBytes_24 : decode cX2_longToBytes 24 = .ok (.lshr, 1) := dk_123 (dk_at dksX2_longToBytes_1 0 rfl rfl)
theorem dX2_longToBytes_25 : decode cX2_longToBytes 25 = .ok (.l2i, 1) := dk_136 (dk_at dksX2_longToBytes_1 1 rfl rfl)
theorem dX2_longToBytes_26 : decode cX2_longToBytes 26 = .ok (.i2b, 1) := dk_145 (dk_at dksX2_longToBytes_1 2 rfl rfl)
theorem dX2_longToBytes_27 : decode cX2_longToBytes 27 = .ok (.bastore, 1) := dk_84 (dk_at dksX2_longToBytes_1 3 rfl rfl)
theorem dX2_longToBytes_28 : decode cX2_longToBytes 28 = .ok (.iinc 5 1, 3) := dk_132 5 1 (dk_at dksX2_longToBytes_1 4 rfl rfl)
theorem dX2_longToBytes_31 : decode cX2_longToBytes 31 = .ok (.goto (-28), 3) := dk_167 255 228 (dk_at dksX2_longToBytes_1 7 rfl rfl)
theorem dX2_longToBytes_34 : decode cX2_longToBytes 34 = .ok (.return_, 1) := dk_177 (dk_at dksX2_longToBytes_1 10 rfl rfl)
theorem q18 : (Jvm.Cond.initialized "SEEDEngine") ∈ lw_all := lw_g (lw_at lw_m1 3 rfl) rfl
theorem q71 : (Jvm.Cond.instantiable "SEEDEngine" (3 : Nat)) ∈ lw_all := lw_g (lw_at lw_m1 56 rfl) rfl
theorem q73 : (Jvm.Cond.instanceMethod ({ cls := "SEEDEngine", name := "<init>", desc := "()V" } : Jvm.MethodName)) ∈ lw_all := lw_g (lw_at lw_m1 58 rfl) rfl
theorem q74 : (Jvm.Cond.code ({ cls := "SEEDEngine", name := "<init>", desc := "()V" } : Jvm.MethodName) prog_7_method_1_code (1 : Nat) (Option.none : Option Jvm.ClassFile.FieldType)) ∈ lw_all := lw_g (lw_at lw_m1 59 rfl) rfl
theorem q75 : (Jvm.Cond.methodLink "SEEDEngine" (1 : Nat) ({ cls := "java/lang/Object", name := "<init>", desc := "()V" } : Jvm.MethodName)) ∈ lw_all := lw_g (lw_at lw_m1 60 rfl) rfl
theorem q76 : (Jvm.Cond.fieldLink "SEEDEngine" (7 : Nat) "SEEDEngine" "BLOCK_SIZE" "I") ∈ lw_all := lw_g (lw_at lw_m1 61 rfl) rfl
theorem q77 : (Jvm.Cond.fieldLink "SEEDEngine" (27 : Nat) "SEEDEngine" "wKey" "[I") ∈ lw_all := lw_g (lw_at lw_m1 62 rfl) rfl
theorem q78 : (Jvm.Cond.fieldLink "SEEDEngine" (13 : Nat) "SEEDEngine" "forEncryption" "Z") ∈ lw_all := lw_g (lw_at lw_m1 63 rfl) rfl
theorem q79 : (Jvm.Cond.laysFinal "SEEDEngine" "SEEDEngine" "BLOCK_SIZE" "I") ∈ lw_all := lw_g (lw_at lw_m1 64 rfl) rfl
theorem q80 : (Jvm.Cond.soleField "SEEDEngine" "BLOCK_SIZE") ∈ lw_all := lw_g (lw_at lw_m1 65 rfl) rfl
theorem q81 : (Jvm.Cond.lays "SEEDEngine" "SEEDEngine" "wKey" "[I") ∈ lw_all := lw_g (lw_at lw_m1 66 rfl) rfl
theorem q82 : (Jvm.Cond.soleField "SEEDEngine" "wKey") ∈ lw_all := lw_g (lw_at lw_m1 67 rfl) rfl
theorem q83 : (Jvm.Cond.lays "SEEDEngine" "SEEDEngine" "forEncryption" "Z") ∈ lw_all := lw_g (lw_at lw_m1 68 rfl) rfl
theorem q84 : (Jvm.Cond.soleField "SEEDEngine" "forEncryption") ∈ lw_all := lw_g (lw_at lw_m1 69 rfl) rfl
theorem q85 : (Jvm.Cond.superclass "SEEDEngine" "java/lang/Object") ∈ lw_all := lw_g (lw_at lw_m1 70 rfl) rfl
theorem q109 : (Jvm.Cond.castable "SEEDEngine" "BlockCipher") ∈ lw_tbl := lw_at lw_m1 94 rfl
theorem q110 : (Jvm.Cond.selects "SEEDEngine" ({ cls := "BlockCipher", name := "init", desc := "(ZLCipherParameters;)V" } : Jvm.MethodName) ({ cls := "SEEDEngine", name := "init", desc := "(ZLCipherParameters;)V" } : Jvm.MethodName)) ∈ lw_all := lw_g (lw_at lw_m1 95 rfl) rfl
theorem q111 : (Jvm.Cond.unhidden "SEEDEngine" "init" "(ZLCipherParameters;)V") ∈ lw_tbl := lw_at lw_m1 96 rfl
theorem q112 : (Jvm.Cond.instanceMethod ({ cls := "SEEDEngine", name := "init", desc := "(ZLCipherParameters;)V" } : Jvm.MethodName)) ∈ lw_all := lw_g (lw_at lw_m1 97 rfl) rfl
theorem q113 : (Jvm.Cond.publicMethod ({ cls := "SEEDEngine", name := "init", desc := "(ZLCipherParameters;)V" } : Jvm.MethodName)) ∈ lw_tbl := lw_at lw_m1 98 rfl
theorem q114 : (Jvm.Cond.code ({ cls := "SEEDEngine", name := "init", desc := "(ZLCipherParameters;)V" } : Jvm.MethodName) prog_7_method_2_code (3 : Nat) (Option.none : Option Jvm.ClassFile.FieldType)) ∈ lw_all := lw_g (lw_at lw_m1 99 rfl) rfl
theorem q115 : (Jvm.Cond.classLink "SEEDEngine" (17 : Nat) "KeyParameter") ∈ lw_all := lw_g (lw_at lw_m1 100 rfl) rfl
theorem q116 : (Jvm.Cond.methodLink "SEEDEngine" (19 : Nat) ({ cls := "KeyParameter", name := "getKey", desc := "()[B" } : Jvm.MethodName)) ∈ lw_all := lw_g (lw_at lw_m1 101 rfl) rfl
theorem q120 : (Jvm.Cond.methodLink "SEEDEngine" (23 : Nat) ({ cls := "SEEDEngine", name := "createWorkingKey", desc := "([B)[I" } : Jvm.MethodName)) ∈ lw_all := lw_g (lw_at lw_m1 105 rfl) rfl
theorem q121 : (Jvm.Cond.privateMethod ({ cls := "SEEDEngine", name := "createWorkingKey", desc := "([B)[I" } : Jvm.MethodName)) ∈ lw_tbl := lw_at lw_m1 106 rfl
theorem q122 : (Jvm.Cond.instanceMethod ({ cls := "SEEDEngine", name := "createWorkingKey", desc := "([B)[I" } : Jvm.MethodName)) ∈ lw_all := lw_g (lw_at lw_m1 107 rfl) rfl
theorem q123 : (Jvm.Cond.code ({ cls := "SEEDEngine", name := "createWorkingKey", desc := "([B)[I" } : Jvm.MethodName) prog_7_method_4_code (12 : Nat) (Option.some (Jvm.ClassFile.FieldType.array Jvm.ClassFile.FieldType.int))) ∈ lw_all := lw_g (lw_at lw_m1 108 rfl) rfl
theorem q124 : (Jvm.Cond.classLink "SEEDEngine" (60 : Nat) "java/lang/IllegalArgumentException") ∈ lw_all := lw_g (lw_at lw_m1 109 rfl) rfl
theorem q166 : (Jvm.Cond.stringRef "SEEDEngine" (62 : Nat) "key size must be 128 bits") ∈ lw_tbl := lw_at lw_m1 151 rfl
theorem q167 : (Jvm.Cond.methodLink "SEEDEngine" (64 : Nat) ({ cls := "java/lang/IllegalArgumentException", name := "<init>", desc := "(Ljava/lang/String;)V" } : Jvm.MethodName)) ∈ lw_all := lw_g (lw_at lw_m1 152 rfl) rfl
theorem q192 : (Jvm.Cond.methodLink "SEEDEngine" (48 : Nat) ({ cls := "SEEDEngine", name := "bytesToLong", desc := "([BI)J" } : Jvm.MethodName)) ∈ lw_all := lw_g (lw_at lw_m1 177 rfl) rfl
theorem q193 : (Jvm.Cond.privateMethod ({ cls := "SEEDEngine", name := "bytesToLong", desc := "([BI)J" } : Jvm.MethodName)) ∈ lw_tbl := lw_at lw_m1 178 rfl
theorem q194 : (Jvm.Cond.instanceMethod ({ cls := "SEEDEngine", name := "bytesToLong", desc := "([BI)J" } : Jvm.MethodName)) ∈ lw_all := lw_g (lw_at lw_m1 179 rfl) rfl
theorem q195 : (Jvm.Cond.code ({ cls := "SEEDEngine", name := "bytesToLong", desc := "([BI)J" } : Jvm.MethodName) prog_7_method_9_code (6 : Nat) (Option.some Jvm.ClassFile.FieldType.long)) ∈ lw_all := lw_g (lw_at lw_m1 180 rfl) rfl
theorem q196 : (Jvm.Cond.methodLink "SEEDEngine" (65 : Nat) ({ cls := "SEEDEngine", name := "extractW0", desc := "(J)I" } : Jvm.MethodName)) ∈ lw_all := lw_g (lw_at lw_m1 181 rfl) rfl
theorem q197 : (Jvm.Cond.privateMethod ({ cls := "SEEDEngine", name := "extractW0", desc := "(J)I" } : Jvm.MethodName)) ∈ lw_tbl := lw_at lw_m1 182 rfl
theorem q198 : (Jvm.Cond.instanceMethod ({ cls := "SEEDEngine", name := "extractW0", desc := "(J)I" } : Jvm.MethodName)) ∈ lw_all := lw_g (lw_at lw_m1 183 rfl) rfl
theorem q199 : (Jvm.Cond.code ({ cls := "SEEDEngine", name := "extractW0", desc := "(J)I" } : Jvm.MethodName) prog_7_method_6_code (3 : Nat) (Option.some Jvm.ClassFile.FieldType.int)) ∈ lw_all := lw_g (lw_at lw_m1 184 rfl) rfl
theorem q200 : (Jvm.Cond.methodLink "SEEDEngine" (69 : Nat) ({ cls := "SEEDEngine", name := "extractW1", desc := "(J)I" } : Jvm.MethodName)) ∈ lw_all := lw_g (lw_at lw_m1 185 rfl) rfl
theorem q201 : (Jvm.Cond.privateMethod ({ cls := "SEEDEngine", name := "extractW1", desc := "(J)I" } : Jvm.MethodName)) ∈ lw_tbl := lw_at lw_m1 186 rfl
theorem q202 : (Jvm.Cond.instanceMethod ({ cls := "SEEDEngine", name := "extractW1", desc := "(J)I" } : Jvm.MethodName)) ∈ lw_all := lw_g (lw_at lw_m1 187 rfl) rfl
theorem q203 : (Jvm.Cond.code ({ cls := "SEEDEngine", name := "extractW1", desc := "(J)I" } : Jvm.MethodName) prog_7_method_5_code (3 : Nat) (Option.some Jvm.ClassFile.FieldType.int)) ∈ lw_all := lw_g (lw_at lw_m1 188 rfl) rfl
theorem q204 : (Jvm.Cond.fieldLink "SEEDEngine" (72 : Nat) "SEEDEngine" "KC" "[I") ∈ lw_all := lw_g (lw_at lw_m1 189 rfl) rfl
theorem q205 : (Jvm.Cond.laysStatic "SEEDEngine" "KC" "[I") ∈ lw_tbl := lw_at lw_m1 190 rfl
theorem q206 : (Jvm.Cond.methodLink "SEEDEngine" (75 : Nat) ({ cls := "SEEDEngine", name := "G", desc := "(I)I" } : Jvm.MethodName)) ∈ lw_all := lw_g (lw_at lw_m1 191 rfl) rfl
theorem q207 : (Jvm.Cond.privateMethod ({ cls := "SEEDEngine", name := "G", desc := "(I)I" } : Jvm.MethodName)) ∈ lw_tbl := lw_at lw_m1 192 rfl
theorem q208 : (Jvm.Cond.instanceMethod ({ cls := "SEEDEngine", name := "G", desc := "(I)I" } : Jvm.MethodName)) ∈ lw_all := lw_g (lw_at lw_m1 193 rfl) rfl
theorem q209 : (Jvm.Cond.code ({ cls := "SEEDEngine", name := "G", desc := "(I)I" } : Jvm.MethodName) prog_7_method_11_code (2 : Nat) (Option.some Jvm.ClassFile.FieldType.int)) ∈ lw_all := lw_g (lw_at lw_m1 194 rfl) rfl
theorem q210 : (Jvm.Cond.fieldLink "SEEDEngine" (86 : Nat) "SEEDEngine" "SS0" "[I") ∈ lw_all := lw_g (lw_at lw_m1 195 rfl) rfl
theorem q211 : (Jvm.Cond.laysStatic "SEEDEngine" "SS0" "[I") ∈ lw_tbl := lw_at lw_m1 196 rfl
theorem q212 : (Jvm.Cond.fieldLink "SEEDEngine" (89 : Nat) "SEEDEngine" "SS1" "[I") ∈ lw_all := lw_g (lw_at lw_m1 197 rfl) rfl
theorem q213 : (Jvm.Cond.laysStatic "SEEDEngine" "SS1" "[I") ∈ lw_tbl := lw_at lw_m1 198 rfl
theorem q214 : (Jvm.Cond.fieldLink "SEEDEngine" (92 : Nat) "SEEDEngine" "SS2" "[I") ∈ lw_all := lw_g (lw_at lw_m1 199 rfl) rfl
theorem q215 : (Jvm.Cond.laysStatic "SEEDEngine" "SS2" "[I") ∈ lw_tbl := lw_at lw_m1 200 rfl
theorem q216 : (Jvm.Cond.fieldLink "SEEDEngine" (95 : Nat) "SEEDEngine" "SS3" "[I") ∈ lw_all := lw_g (lw_at lw_m1 201 rfl) rfl
theorem q217 : (Jvm.Cond.laysStatic "SEEDEngine" "SS3" "[I") ∈ lw_tbl := lw_at lw_m1 202 rfl
theorem q218 : (Jvm.Cond.methodLink "SEEDEngine" (79 : Nat) ({ cls := "SEEDEngine", name := "rotateRight8", desc := "(J)J" } : Jvm.MethodName)) ∈ lw_all := lw_g (lw_at lw_m1 203 rfl) rfl
theorem q219 : (Jvm.Cond.privateMethod ({ cls := "SEEDEngine", name := "rotateRight8", desc := "(J)J" } : Jvm.MethodName)) ∈ lw_tbl := lw_at lw_m1 204 rfl
theorem q220 : (Jvm.Cond.instanceMethod ({ cls := "SEEDEngine", name := "rotateRight8", desc := "(J)J" } : Jvm.MethodName)) ∈ lw_all := lw_g (lw_at lw_m1 205 rfl) rfl
theorem q221 : (Jvm.Cond.code ({ cls := "SEEDEngine", name := "rotateRight8", desc := "(J)J" } : Jvm.MethodName) prog_7_method_8_code (3 : Nat) (Option.some Jvm.ClassFile.FieldType.long)) ∈ lw_all := lw_g (lw_at lw_m1 206 rfl) rfl
theorem q222 : (Jvm.Cond.methodLink "SEEDEngine" (83 : Nat) ({ cls := "SEEDEngine", name := "rotateLeft8", desc := "(J)J" } : Jvm.MethodName)) ∈ lw_all := lw_g (lw_at lw_m1 207 rfl) rfl
theorem q223 : (Jvm.Cond.privateMethod ({ cls := "SEEDEngine", name := "rotateLeft8", desc := "(J)J" } : Jvm.MethodName)) ∈ lw_tbl := lw_at lw_m1 208 rfl
theorem q224 : (Jvm.Cond.instanceMethod ({ cls := "SEEDEngine", name := "rotateLeft8", desc := "(J)J" } : Jvm.MethodName)) ∈ lw_all := lw_g (lw_at lw_m1 209 rfl) rfl
theorem q225 : (Jvm.Cond.code ({ cls := "SEEDEngine", name := "rotateLeft8", desc := "(J)J" } : Jvm.MethodName) prog_7_method_7_code (3 : Nat) (Option.some Jvm.ClassFile.FieldType.long)) ∈ lw_all := lw_g (lw_at lw_m1 210 rfl) rfl
theorem q230 : (Jvm.Cond.selects "SEEDEngine" ({ cls := "BlockCipher", name := "processBlock", desc := "([BI[BI)I" } : Jvm.MethodName) ({ cls := "SEEDEngine", name := "processBlock", desc := "([BI[BI)I" } : Jvm.MethodName)) ∈ lw_all := lw_g (lw_at lw_m1 215 rfl) rfl
theorem q231 : (Jvm.Cond.unhidden "SEEDEngine" "processBlock" "([BI[BI)I") ∈ lw_tbl := lw_at lw_m1 216 rfl
theorem q232 : (Jvm.Cond.instanceMethod ({ cls := "SEEDEngine", name := "processBlock", desc := "([BI[BI)I" } : Jvm.MethodName)) ∈ lw_all := lw_g (lw_at lw_m1 217 rfl) rfl
theorem q233 : (Jvm.Cond.publicMethod ({ cls := "SEEDEngine", name := "processBlock", desc := "([BI[BI)I" } : Jvm.MethodName)) ∈ lw_tbl := lw_at lw_m1 218 rfl
theorem q234 : (Jvm.Cond.code ({ cls := "SEEDEngine", name := "processBlock", desc := "([BI[BI)I" } : Jvm.MethodName) prog_7_method_3_code (12 : Nat) (Option.some Jvm.ClassFile.FieldType.int)) ∈ lw_all := lw_g (lw_at lw_m1 219 rfl) rfl
theorem q235 : (Jvm.Cond.classLink "SEEDEngine" (31 : Nat) "java/lang/IllegalStateException") ∈ lw_all := lw_g (lw_at lw_m1 220 rfl) rfl
theorem q244 : (Jvm.Cond.stringRef "SEEDEngine" (33 : Nat) "SEED engine not initialised") ∈ lw_tbl := lw_at lw_m1 229 rfl
theorem q245 : (Jvm.Cond.methodLink "SEEDEngine" (35 : Nat) ({ cls := "java/lang/IllegalStateException", name := "<init>", desc := "(Ljava/lang/String;)V" } : Jvm.MethodName)) ∈ lw_all := lw_g (lw_at lw_m1 230 rfl) rfl
theorem q252 : (Jvm.Cond.classLink "SEEDEngine" (38 : Nat) "DataLengthException") ∈ lw_all := lw_g (lw_at lw_m1 237 rfl) rfl
theorem q262 : (Jvm.Cond.stringRef "SEEDEngine" (40 : Nat) "input buffer too short") ∈ lw_tbl := lw_at lw_m2 7 rfl
theorem q263 : (Jvm.Cond.methodLink "SEEDEngine" (42 : Nat) ({ cls := "DataLengthException", name := "<init>", desc := "(Ljava/lang/String;)V" } : Jvm.MethodName)) ∈ lw_all := lw_g (lw_at lw_m2 8 rfl) rfl
theorem q272 : (Jvm.Cond.classLink "SEEDEngine" (43 : Nat) "OutputLengthException") ∈ lw_all := lw_g (lw_at lw_m2 17 rfl) rfl
theorem q282 : (Jvm.Cond.stringRef "SEEDEngine" (45 : Nat) "output buffer too short") ∈ lw_tbl := lw_at lw_m2 27 rfl
theorem q283 : (Jvm.Cond.methodLink "SEEDEngine" (47 : Nat) ({ cls := "OutputLengthException", name := "<init>", desc := "(Ljava/lang/String;)V" } : Jvm.MethodName)) ∈ lw_all := lw_g (lw_at lw_m2 28 rfl) rfl
theorem q289 : (Jvm.Cond.methodLink "SEEDEngine" (52 : Nat) ({ cls := "SEEDEngine", name := "F", desc := "(IIJ)J" } : Jvm.MethodName)) ∈ lw_all := lw_g (lw_at lw_m2 34 rfl) rfl
theorem q290 : (Jvm.Cond.privateMethod ({ cls := "SEEDEngine", name := "F", desc := "(IIJ)J" } : Jvm.MethodName)) ∈ lw_tbl := lw_at lw_m2 35 rfl
theorem q291 : (Jvm.Cond.instanceMethod ({ cls := "SEEDEngine", name := "F", desc := "(IIJ)J" } : Jvm.MethodName)) ∈ lw_all := lw_g (lw_at lw_m2 36 rfl) rfl
theorem q292 : (Jvm.Cond.code ({ cls := "SEEDEngine", name := "F", desc := "(IIJ)J" } : Jvm.MethodName) prog_7_method_12_code (9 : Nat) (Option.some Jvm.ClassFile.FieldType.long)) ∈ lw_all := lw_g (lw_at lw_m2 37 rfl) rfl
theorem q293 : (Jvm.Cond.methodLink "SEEDEngine" (98 : Nat) ({ cls := "SEEDEngine", name := "phaseCalc2", desc := "(IIII)I" } : Jvm.MethodName)) ∈ lw_all := lw_g (lw_at lw_m2 38 rfl) rfl
theorem q294 : (Jvm.Cond.privateMethod ({ cls := "SEEDEngine", name := "phaseCalc2", desc := "(IIII)I" } : Jvm.MethodName)) ∈ lw_tbl := lw_at lw_m2 39 rfl
theorem q295 : (Jvm.Cond.instanceMethod ({ cls := "SEEDEngine", name := "phaseCalc2", desc := "(IIII)I" } : Jvm.MethodName)) ∈ lw_all := lw_g (lw_at lw_m2 40 rfl) rfl
theorem q296 : (Jvm.Cond.code ({ cls := "SEEDEngine", name := "phaseCalc2", desc := "(IIII)I" } : Jvm.MethodName) prog_7_method_14_code (5 : Nat) (Option.some Jvm.ClassFile.FieldType.int)) ∈ lw_all := lw_g (lw_at lw_m2 41 rfl) rfl
theorem q297 : (Jvm.Cond.methodLink "SEEDEngine" (102 : Nat) ({ cls := "SEEDEngine", name := "phaseCalc1", desc := "(IIII)I" } : Jvm.MethodName)) ∈ lw_all := lw_g (lw_at lw_m2 42 rfl) rfl
theorem q298 : (Jvm.Cond.privateMethod ({ cls := "SEEDEngine", name := "phaseCalc1", desc := "(IIII)I" } : Jvm.MethodName)) ∈ lw_tbl := lw_at lw_m2 43 rfl
theorem q299 : (Jvm.Cond.instanceMethod ({ cls := "SEEDEngine", name := "phaseCalc1", desc := "(IIII)I" } : Jvm.MethodName)) ∈ lw_all := lw_g (lw_at lw_m2 44 rfl) rfl
theorem q300 : (Jvm.Cond.code ({ cls := "SEEDEngine", name := "phaseCalc1", desc := "(IIII)I" } : Jvm.MethodName) prog_7_method_13_code (5 : Nat) (Option.some Jvm.ClassFile.FieldType.int)) ∈ lw_all := lw_g (lw_at lw_m2 45 rfl) rfl
theorem q301 : (Jvm.Cond.constantLong "SEEDEngine" (105 : Nat) (4294967295 : Int64)) ∈ lw_all := lw_g (lw_at lw_m2 46 rfl) rfl
theorem q302 : (Jvm.Cond.methodLink "SEEDEngine" (56 : Nat) ({ cls := "SEEDEngine", name := "longToBytes", desc := "([BIJ)V" } : Jvm.MethodName)) ∈ lw_all := lw_g (lw_at lw_m2 47 rfl) rfl
theorem q303 : (Jvm.Cond.privateMethod ({ cls := "SEEDEngine", name := "longToBytes", desc := "([BIJ)V" } : Jvm.MethodName)) ∈ lw_tbl := lw_at lw_m2 48 rfl
theorem q304 : (Jvm.Cond.instanceMethod ({ cls := "SEEDEngine", name := "longToBytes", desc := "([BIJ)V" } : Jvm.MethodName)) ∈ lw_all := lw_g (lw_at lw_m2 49 rfl) rfl
theorem q305 : (Jvm.Cond.code ({ cls := "SEEDEngine", name := "longToBytes", desc := "([BIJ)V" } : Jvm.MethodName) prog_7_method_10_code (6 : Nat) (Option.none : Option Jvm.ClassFile.FieldType)) ∈ lw_all := lw_g (lw_at lw_m2 50 rfl) rfl
theorem in_X2 : ∀ w ∈ wsX20, w ∈ lw_all := lw_in wsX20 [79, 81, 83] (by decide +kernel) (by decide +kernel)

/-! KeyParameter -/
set_option maxRecDepth 100000
def RX3 : String := "KeyParameter"
def TX3 : u_T := fun k => match k with
  | _ => ("KeyParameter", "key", "[B", false)
def tyX3 : Nat → FieldType := fun k => match k with
  | _ => .array .byte
abbrev wsX30 : List Cond := u_ws RX3 TX3 1
theorem nmX3 : ∀ a, a < 1 → ∀ b, b < 1 → a ≠ b → (TX3 a).2.1 ≠ (TX3 b).2.1 := by decide +kernel
theorem tyX3_ok : ∀ k, k < 1 → parseFieldDescriptor (TX3 k).2.2.1 = some (tyX3 k) := by decide +kernel
abbrev cX3_init : ByteArray := prog_4_method_1_code
def yX3_init : MethodName := ⟨RX3, "<init>", "([B)V"⟩
def dkwX3_init_0 : List UInt8 := [42, 43, 3, 43, 190, 183, 0, 1, 177]
abbrev dktX3_init_0 : List UInt8 := dkwX3_init_0 ++ []
theorem dksX3_init_0 : cX3_init.data.toList.drop 0 = dktX3_init_0 := by decide +kernel
theorem dX3_init_0 : decode cX3_init 0 = .ok (.aload_n 0, 1) := dk_42 (dk_at dksX3_init_0 0 rfl rfl)
theorem dX3_init_1 : decode cX3_init 1 = .ok (.aload_n 1, 1) := dk_43 (dk_at dksX3_init_0 1 rfl rfl)
theorem dX3_init_2 : decode cX3_init 2 = .ok (.iconst 0, 1) := dk_3 (dk_at dksX3_init_0 2 rfl rfl)
theorem dX3_init_3 : decode cX3_init 3 = .ok (.aload_n 1, 1) := dk_43 (dk_at dksX3_init_0 3 rfl rfl)
theorem dX3_init_4 : decode cX3_init 4 = .ok (.arraylength, 1) := dk_190 (dk_at dksX3_init_0 4 rfl rfl)
theorem dX3_init_5 : decode cX3_init 5 = .ok (.invokespecial 1, 3) := dk_183 0 1 (dk_at dksX3_init_0 5 rfl rfl)
theorem dX3_init_8 : decode cX3_init 8 = .ok (.return_, 1) := dk_177 (dk_at dksX3_init_0 8 rfl rfl)
abbrev cX3_init_2 : ByteArray := prog_4_method_2_code
def yX3_init_2 : MethodName := ⟨RX3, "<init>", "([BII)V"⟩
def dkwX3_init_2_0 : List UInt8 := [42, 29, 183, 0, 7, 43, 28, 42, 180, 0, 10, 3, 29, 184, 0, 14, 177]
abbrev dktX3_init_2_0 : List UInt8 := dkwX3_init_2_0 ++ []
theorem dksX3_init_2_0 : cX3_init_2.data.toList.drop 0 = dktX3_init_2_0 := by decide +kernel
theorem dX3_init_2_0 : decode cX3_init_2 0 = .ok (.aload_n 0, 1) := dk_42 (dk_at dksX3_init_2_0 0 rfl rfl)
theorem dX3_init_2_1 : decode cX3_init_2 1 = .ok (.iload_n 3, 1) := dk_29 (dk_at dksX3_init_2_0 1 rfl rfl)
theorem dX3_init_2_2 : decode cX3_init_2 2 = .ok (.invokespecial 7, 3) := dk_183 0 7 (dk_at dksX3_init_2_0 2 rfl rfl)
theorem dX3_init_2_5 : decode cX3_init_2 5 = .ok (.aload_n 1, 1) := dk_43 (dk_at dksX3_init_2_0 5 rfl rfl)
theorem dX3_init_2_6 : decode cX3_init_2 6 = .ok (.iload_n 2, 1) := dk_28 (dk_at dksX3_init_2_0 6 rfl rfl)
theorem dX3_init_2_7 : decode cX3_init_2 7 = .ok (.aload_n 0, 1) := dk_42 (dk_at dksX3_init_2_0 7 rfl rfl)
theorem dX3_init_2_8 : decode cX3_init_2 8 = .ok (.getfield 10, 3) := dk_180 0 10 (dk_at dksX3_init_2_0 8 rfl rfl)
theorem dX3_init_2_11 : decode cX3_init_2 11 = .ok (.iconst 0, 1) := dk_3 (dk_at dksX3_init_2_0 11 rfl rfl)
theorem dX3_init_2_12 : decode cX3_init_2 12 = .ok (.iload_n 3, 1) := dk_29 (dk_at dksX3_init_2_0 12 rfl rfl)
theorem dX3_init_2_13 : decode cX3_init_2 13 = .ok (.invokestatic 14, 3) := dk_184 0 14 (dk_at dksX3_init_2_0 13 rfl rfl)
theorem dX3_init_2_16 : decode cX3_init_2 16 = .ok (.return_, 1) := dk_177 (dk_at dksX3_init_2_0 16 rfl rfl)
abbrev cX3_init_3 : ByteArray := prog_4_method_3_code
def yX3_init_3 : MethodName := ⟨RX3, "<init>", "(I)V"⟩
def dkwX3_init_3_0 : List UInt8 := [42, 183, 0, 20, 42, 27, 188, 8, 181, 0, 10, 177]
abbrev dktX3_init_3_0 : List UInt8 := dkwX3_init_3_0 ++ []
theorem dksX3_init_3_0 : cX3_init_3.data.toList.drop 0 = dktX3_init_3_0 := by decide +kernel
theorem dX3_init_3_0 : decode cX3_init_3 0 = .ok (.aload_n 0, 1) := dk_42 (dk_at dksX3_init_3_0 0 rfl rfl)
theorem dX3_init_3_1 : decode cX3_init_3 1 = .ok (.invokespecial 20, 3) := dk_183 0 20 (dk_at dksX3_init_3_0 1 rfl rfl)
theorem dX3_init_3_4 : decode cX3_init_3 4 = .ok (.aload_n 0, 1) := dk_42 (dk_at dksX3_init_3_0 4 rfl rfl)
theorem dX3_init_3_5 : decode cX3_init_3 5 = .ok (.iload_n 1, 1) := dk_27 (dk_at dksX3_init_3_0 5 rfl rfl)
theorem dX3_init_3_6 : decode cX3_init_3 6 = .ok (.newarray .byte, 2) := dk_188_8 (dk_at dksX3_init_3_0 6 rfl rfl)
theorem dX3_init_3_8 : decode cX3_init_3 8 = .ok (.putfield 10, 3) := dk_181 0 10 (dk_at dksX3_init_3_0 8 rfl rfl)
theorem dX3_init_3_11 : decode cX3_init_3 11 = .ok (.return_, 1) := dk_177 (dk_at dksX3_init_3_0 11 rfl rfl)
abbrev cX3_getKey : ByteArray := prog_4_method_4_code
def yX3_getKey : MethodName := ⟨RX3, "getKey", "()[B"⟩
theorem dX3_getKey_0 : decode cX3_getKey 0 = .ok (.aload_n 0, 1) := by decide +kernel
theorem dX3_getKey_1 : decode cX3_getKey 1 = .ok (.getfield 10, 3) := by decide +kernel
theorem dX3_getKey_4 : decode cX3_getKey 4 = .ok (.areturn, 1) := by decide +kernel
theorem q19 : (Jvm.Cond.initialized "KeyParameter") ∈ lw_all := lw_g (lw_at lw_m1 4 rfl) rfl
theorem q87 : (Jvm.Cond.instantiable "KeyParameter" (1 : Nat)) ∈ lw_all := lw_g (lw_at lw_m1 72 rfl) rfl
theorem q89 : (Jvm.Cond.instanceMethod ({ cls := "KeyParameter", name := "<init>", desc := "([B)V" } : Jvm.MethodName)) ∈ lw_all := lw_g (lw_at lw_m1 74 rfl) rfl
theorem q90 : (Jvm.Cond.code ({ cls := "KeyParameter", name := "<init>", desc := "([B)V" } : Jvm.MethodName) prog_4_method_1_code (2 : Nat) (Option.none : Option Jvm.ClassFile.FieldType)) ∈ lw_all := lw_g (lw_at lw_m1 75 rfl) rfl
theorem q91 : (Jvm.Cond.methodLink "KeyParameter" (1 : Nat) ({ cls := "KeyParameter", name := "<init>", desc := "([BII)V" } : Jvm.MethodName)) ∈ lw_all := lw_g (lw_at lw_m1 76 rfl) rfl
theorem q92 : (Jvm.Cond.instanceMethod ({ cls := "KeyParameter", name := "<init>", desc := "([BII)V" } : Jvm.MethodName)) ∈ lw_all := lw_g (lw_at lw_m1 77 rfl) rfl
theorem q93 : (Jvm.Cond.code ({ cls := "KeyParameter", name := "<init>", desc := "([BII)V" } : Jvm.MethodName) prog_4_method_2_code (4 : Nat) (Option.none : Option Jvm.ClassFile.FieldType)) ∈ lw_all := lw_g (lw_at lw_m1 78 rfl) rfl
theorem q94 : (Jvm.Cond.methodLink "KeyParameter" (7 : Nat) ({ cls := "KeyParameter", name := "<init>", desc := "(I)V" } : Jvm.MethodName)) ∈ lw_all := lw_g (lw_at lw_m1 79 rfl) rfl
theorem q95 : (Jvm.Cond.instanceMethod ({ cls := "KeyParameter", name := "<init>", desc := "(I)V" } : Jvm.MethodName)) ∈ lw_all := lw_g (lw_at lw_m1 80 rfl) rfl
theorem q96 : (Jvm.Cond.code ({ cls := "KeyParameter", name := "<init>", desc := "(I)V" } : Jvm.MethodName) prog_4_method_3_code (2 : Nat) (Option.none : Option Jvm.ClassFile.FieldType)) ∈ lw_all := lw_g (lw_at lw_m1 81 rfl) rfl
theorem q97 : (Jvm.Cond.methodLink "KeyParameter" (20 : Nat) ({ cls := "java/lang/Object", name := "<init>", desc := "()V" } : Jvm.MethodName)) ∈ lw_all := lw_g (lw_at lw_m1 82 rfl) rfl
theorem q98 : (Jvm.Cond.fieldLink "KeyParameter" (10 : Nat) "KeyParameter" "key" "[B") ∈ lw_all := lw_g (lw_at lw_m1 83 rfl) rfl
theorem q99 : (Jvm.Cond.lays "KeyParameter" "KeyParameter" "key" "[B") ∈ lw_all := lw_g (lw_at lw_m1 84 rfl) rfl
theorem q100 : (Jvm.Cond.soleField "KeyParameter" "key") ∈ lw_all := lw_g (lw_at lw_m1 85 rfl) rfl
theorem q101 : (Jvm.Cond.superclass "KeyParameter" "java/lang/Object") ∈ lw_all := lw_g (lw_at lw_m1 86 rfl) rfl
theorem q102 : (Jvm.Cond.methodLink "KeyParameter" (14 : Nat) ({ cls := "java/lang/System", name := "arraycopy", desc := "(Ljava/lang/Object;ILjava/lang/Object;II)V" } : Jvm.MethodName)) ∈ lw_all := lw_g (lw_at lw_m1 87 rfl) rfl
theorem q117 : (Jvm.Cond.instanceMethod ({ cls := "KeyParameter", name := "getKey", desc := "()[B" } : Jvm.MethodName)) ∈ lw_all := lw_g (lw_at lw_m1 102 rfl) rfl
theorem q118 : (Jvm.Cond.selects "KeyParameter" ({ cls := "KeyParameter", name := "getKey", desc := "()[B" } : Jvm.MethodName) ({ cls := "KeyParameter", name := "getKey", desc := "()[B" } : Jvm.MethodName)) ∈ lw_all := lw_g (lw_at lw_m1 103 rfl) rfl
theorem q119 : (Jvm.Cond.code ({ cls := "KeyParameter", name := "getKey", desc := "()[B" } : Jvm.MethodName) prog_4_method_4_code (1 : Nat) (Option.some (Jvm.ClassFile.FieldType.array Jvm.ClassFile.FieldType.byte))) ∈ lw_all := lw_g (lw_at lw_m1 104 rfl) rfl
theorem in_X3 : ∀ w ∈ wsX30, w ∈ lw_all := lw_in wsX30 [99] (by decide +kernel) (by decide +kernel)

/-! java/lang/Object -/
set_option maxRecDepth 100000
def RJ5 : String := "java/lang/Object"
abbrev cJ5_init : ByteArray := object_method_1_code
def yJ5_init : MethodName := ⟨RJ5, "<init>", "()V"⟩
theorem dJ5_init_0 : decode cJ5_init 0 = .ok (.return_, 1) := by decide +kernel
theorem q35 : (Jvm.Cond.instanceMethod ({ cls := "java/lang/Object", name := "<init>", desc := "()V" } : Jvm.MethodName)) ∈ lw_all := lw_g (lw_at lw_m1 20 rfl) rfl
theorem q36 : (Jvm.Cond.code ({ cls := "java/lang/Object", name := "<init>", desc := "()V" } : Jvm.MethodName) object_method_1_code (1 : Nat) (Option.none : Option Jvm.ClassFile.FieldType)) ∈ lw_all := lw_g (lw_at lw_m1 21 rfl) rfl

theorem q47 : (Jvm.Cond.arrayClass Jvm.ClassFile.FieldType.byte) ∈ lw_all := lw_g (lw_at lw_m1 32 rfl) rfl
set_option maxRecDepth 100000
theorem q251 : (Jvm.Cond.arrayClass Jvm.ClassFile.FieldType.int) ∈ lw_all := lw_g (lw_at lw_m1 236 rfl) rfl

theorem q15 : (Jvm.Cond.initialized "SeedDeskLaw") ∈ lw_all := lw_g (lw_at lw_m1 0 rfl) rfl
set_option maxRecDepth 100000
theorem q29 : (Jvm.Cond.classLink "SeedDeskLaw" (7 : Nat) "SeedDesk") ∈ lw_all := lw_g (lw_at lw_m1 14 rfl) rfl
theorem q31 : (Jvm.Cond.methodLink "SeedDeskLaw" (9 : Nat) ({ cls := "SeedDesk", name := "<init>", desc := "()V" } : Jvm.MethodName)) ∈ lw_all := lw_g (lw_at lw_m1 16 rfl) rfl
theorem q48 : (Jvm.Cond.methodLink "SeedDeskLaw" (13 : Nat) ({ cls := "SeedDesk", name := "key", desc := "(IIIII)V" } : Jvm.MethodName)) ∈ lw_all := lw_g (lw_at lw_m1 33 rfl) rfl
theorem q55 : (Jvm.Cond.methodLink "SeedDeskLaw" (18 : Nat) ({ cls := "SeedDesk", name := "block", desc := "(IIII)V" } : Jvm.MethodName)) ∈ lw_all := lw_g (lw_at lw_m1 40 rfl) rfl
theorem q59 : (Jvm.Cond.methodLink "SeedDeskLaw" (23 : Nat) ({ cls := "SeedDesk", name := "lock", desc := "(I)V" } : Jvm.MethodName)) ∈ lw_all := lw_g (lw_at lw_m1 44 rfl) rfl
theorem q306 : (Jvm.Cond.methodLink "SeedDeskLaw" (28 : Nat) ({ cls := "SeedDesk", name := "open", desc := "(I)V" } : Jvm.MethodName)) ∈ lw_all := lw_g (lw_at lw_m2 51 rfl) rfl
theorem q310 : (Jvm.Cond.methodLink "SeedDeskLaw" (32 : Nat) ({ cls := "SeedDesk", name := "again", desc := "()V" } : Jvm.MethodName)) ∈ lw_all := lw_g (lw_at lw_m2 55 rfl) rfl
theorem q314 : (Jvm.Cond.methodLink "SeedDeskLaw" (36 : Nat) ({ cls := "SeedDesk", name := "out", desc := "(I)I" } : Jvm.MethodName)) ∈ lw_all := lw_g (lw_at lw_m2 59 rfl) rfl
theorem q318 : (Jvm.Cond.classLink "SeedDeskLaw" (10 : Nat) "SeedDeskModel") ∈ lw_all := lw_g (lw_at lw_m2 63 rfl) rfl
theorem q320 : (Jvm.Cond.methodLink "SeedDeskLaw" (12 : Nat) ({ cls := "SeedDeskModel", name := "<init>", desc := "()V" } : Jvm.MethodName)) ∈ lw_all := lw_g (lw_at lw_m2 65 rfl) rfl
theorem q334 : (Jvm.Cond.methodLink "SeedDeskLaw" (17 : Nat) ({ cls := "SeedDeskModel", name := "key", desc := "(IIIII)V" } : Jvm.MethodName)) ∈ lw_all := lw_g (lw_at lw_m2 79 rfl) rfl
theorem q341 : (Jvm.Cond.methodLink "SeedDeskLaw" (22 : Nat) ({ cls := "SeedDeskModel", name := "block", desc := "(IIII)V" } : Jvm.MethodName)) ∈ lw_all := lw_g (lw_at lw_m2 86 rfl) rfl
theorem q345 : (Jvm.Cond.methodLink "SeedDeskLaw" (27 : Nat) ({ cls := "SeedDeskModel", name := "lock", desc := "(I)V" } : Jvm.MethodName)) ∈ lw_all := lw_g (lw_at lw_m2 90 rfl) rfl
theorem q370 : (Jvm.Cond.methodLink "SeedDeskLaw" (31 : Nat) ({ cls := "SeedDeskModel", name := "open", desc := "(I)V" } : Jvm.MethodName)) ∈ lw_all := lw_g (lw_at lw_m2 115 rfl) rfl
theorem q374 : (Jvm.Cond.methodLink "SeedDeskLaw" (35 : Nat) ({ cls := "SeedDeskModel", name := "again", desc := "()V" } : Jvm.MethodName)) ∈ lw_all := lw_g (lw_at lw_m2 119 rfl) rfl
theorem q378 : (Jvm.Cond.methodLink "SeedDeskLaw" (40 : Nat) ({ cls := "SeedDeskModel", name := "out", desc := "(I)I" } : Jvm.MethodName)) ∈ lw_all := lw_g (lw_at lw_m2 123 rfl) rfl

theorem q20 : (Jvm.Cond.initialized "java/lang/System") ∈ lw_all := lw_g (lw_at lw_m1 5 rfl) rfl
set_option maxRecDepth 100000
theorem q103 : (Jvm.Cond.static ({ cls := "java/lang/System", name := "arraycopy", desc := "(Ljava/lang/Object;ILjava/lang/Object;II)V" } : Jvm.MethodName)) ∈ lw_all := lw_g (lw_at lw_m1 88 rfl) rfl
theorem q104 : (Jvm.Cond.native ({ cls := "java/lang/System", name := "arraycopy", desc := "(Ljava/lang/Object;ILjava/lang/Object;II)V" } : Jvm.MethodName)) ∈ lw_all := lw_g (lw_at lw_m1 89 rfl) rfl

theorem q107 : (Jvm.Cond.interfaceMethod "BlockCipher" "BlockCipher" "init" "(ZLCipherParameters;)V") ∈ lw_tbl := lw_at lw_m1 92 rfl
set_option maxRecDepth 100000
theorem q108 : (Jvm.Cond.declares ({ cls := "BlockCipher", name := "init", desc := "(ZLCipherParameters;)V" } : Jvm.MethodName)) ∈ lw_tbl := lw_at lw_m1 93 rfl
theorem q228 : (Jvm.Cond.interfaceMethod "BlockCipher" "BlockCipher" "processBlock" "([BI[BI)I") ∈ lw_tbl := lw_at lw_m1 213 rfl
theorem q229 : (Jvm.Cond.declares ({ cls := "BlockCipher", name := "processBlock", desc := "([BI[BI)I" } : Jvm.MethodName)) ∈ lw_tbl := lw_at lw_m1 214 rfl

/-! the law's own entry -/
set_option maxRecDepth 100000
abbrev cL_law : ByteArray := code
def dkwL_law_11 : List UInt8 := [132, 3, 6, 167, 255, 11, 4, 172]
abbrev dktL_law_11 : List UInt8 := dkwL_law_11 ++ []
def dkwL_law_10 : List UInt8 := [42, 29, 4, 96, 46, 182, 0, 36, 44, 42, 29, 4, 96, 46, 182, 0, 40, 159, 0, 5, 3, 172]
abbrev dktL_law_10 : List UInt8 := dkwL_law_10 ++ dktL_law_11
def dkwL_law_9 : List UInt8 := [44, 42, 29, 4, 96, 46, 182, 0, 31, 167, 0, 37, 43, 182, 0, 32, 44, 182, 0, 35, 167, 0, 26, 43]
abbrev dktL_law_9 : List UInt8 := dkwL_law_9 ++ dktL_law_10
def dkwL_law_8 : List UInt8 := [182, 0, 23, 44, 42, 29, 4, 96, 46, 182, 0, 27, 167, 0, 58, 43, 42, 29, 4, 96, 46, 182, 0, 28]
abbrev dktL_law_8 : List UInt8 := dkwL_law_8 ++ dktL_law_9
def dkwL_law_7 : List UInt8 := [42, 29, 6, 96, 46, 42, 29, 7, 96, 46, 182, 0, 22, 167, 0, 79, 43, 42, 29, 4, 96, 46]
abbrev dktL_law_7 : List UInt8 := dkwL_law_7 ++ dktL_law_8
def dkwL_law_6 : List UInt8 := [42, 29, 6, 96, 46, 42, 29, 7, 96, 46, 182, 0, 18, 44, 42, 29, 4, 96, 46, 42, 29, 5, 96, 46]
abbrev dktL_law_6 : List UInt8 := dkwL_law_6 ++ dktL_law_7
def dkwL_law_5 : List UInt8 := [96, 46, 42, 29, 8, 96, 46, 182, 0, 17, 167, 0, 130, 43, 42, 29, 4, 96, 46, 42, 29, 5, 96, 46]
abbrev dktL_law_5 : List UInt8 := dkwL_law_5 ++ dktL_law_6
def dkwL_law_4 : List UInt8 := [96, 46, 182, 0, 13, 44, 42, 29, 4, 96, 46, 42, 29, 5, 96, 46, 42, 29, 6, 96, 46, 42, 29, 7]
abbrev dktL_law_4 : List UInt8 := dkwL_law_4 ++ dktL_law_5
def dkwL_law_3 : List UInt8 := [43, 42, 29, 4, 96, 46, 42, 29, 5, 96, 46, 42, 29, 6, 96, 46, 42, 29, 7, 96, 46, 42, 29, 8]
abbrev dktL_law_3 : List UInt8 := dkwL_law_3 ++ dktL_law_4
def dkwL_law_2 : List UInt8 := [170, 0, 0, 0, 0, 0, 227, 0, 0, 0, 0, 0, 0, 0, 5, 0, 0, 0, 39, 0, 0, 0, 100, 0, 0, 0, 151, 0, 0, 0, 172, 0, 0, 0, 193, 0, 0, 0, 204]
abbrev dktL_law_2 : List UInt8 := dkwL_law_2 ++ dktL_law_3
def dkwL_law_1 : List UInt8 := [163, 0, 242, 42, 29, 46, 16, 7, 126]
abbrev dktL_law_1 : List UInt8 := dkwL_law_1 ++ dktL_law_2
def dkwL_law_0 : List UInt8 := [187, 0, 7, 89, 183, 0, 9, 76, 187, 0, 10, 89, 183, 0, 12, 77, 3, 62, 29, 42, 190, 16, 6, 100]
abbrev dktL_law_0 : List UInt8 := dkwL_law_0 ++ dktL_law_1
theorem dksL_law_0 : cL_law.data.toList.drop 0 = dktL_law_0 := by decide +kernel
theorem dksL_law_1 : cL_law.data.toList.drop 24 = dktL_law_1 := dk_seg dksL_law_0 24 rfl rfl
theorem dksL_law_2 : cL_law.data.toList.drop 33 = dktL_law_2 := dk_seg dksL_law_1 9 rfl rfl
theorem dksL_law_3 : cL_law.data.toList.drop 72 = dktL_law_3 := dk_seg dksL_law_2 39 rfl rfl
theorem dksL_law_4 : cL_law.data.toList.drop 96 = dktL_law_4 := dk_seg dksL_law_3 24 rfl rfl
theorem dksL_law_5 : cL_law.data.toList.drop 120 = dktL_law_5 := dk_seg dksL_law_4 24 rfl rfl
theorem dksL_law_6 : cL_law.data.toList.drop 144 = dktL_law_6 := dk_seg dksL_law_5 24 rfl rfl
theorem dksL_law_7 : cL_law.data.toList.drop 168 = dktL_law_7 := dk_seg dksL_law_6 24 rfl rfl
theorem dksL_law_8 : cL_law.data.toList.drop 190 = dktL_law_8 := dk_seg dksL_law_7 22 rfl rfl
theorem dksL_law_9 : cL_law.data.toList.drop 214 = dktL_law_9 := dk_seg dksL_law_8 24 rfl rfl
theorem dksL_law_10 : cL_law.data.toList.drop 238 = dktL_law_10 := dk_seg dksL_law_9 24 rfl rfl
theorem dksL_law_11 : cL_law.data.toList.drop 260 = dktL_law_11 := dk_seg dksL_law_10 22 rfl rfl
theorem dL_law_0 : decode cL_law 0 = .ok (.new 7, 3) := dk_187 0 7 (dk_at dksL_law_0 0 rfl rfl)
theorem dL_law_3 : decode cL_law 3 = .ok (.dup, 1) := dk_89 (dk_at dksL_law_0 3 rfl rfl)
theorem dL_law_4 : decode cL_law 4 = .ok (.invokespecial 9, 3) := dk_183 0 9 (dk_at dksL_law_0 4 rfl rfl)
theorem dL_law_7 : decode cL_law 7 = .ok (.astore_n 1, 1) := dk_76 (dk_at dksL_law_0 7 rfl rfl)
theorem dL_law_8 : decode cL_law 8 = .ok (.new 10, 3) := dk_187 0 10 (dk_at dksL_law_0 8 rfl rfl)
theorem dL_law_11 : decode cL_law 11 = .ok (.dup, 1) := dk_89 (dk_at dksL_law_0 11 rfl rfl)
theorem dL_law_12 : decode cL_law 12 = .ok (.invokespecial 12, 3) := dk_183 0 12 (dk_at dksL_law_0 12 rfl rfl)
theorem dL_law_15 : decode cL_law 15 = .ok (.astore_n 2, 1) := dk_77 (dk_at dksL_law_0 15 rfl rfl)
theorem dL_law_16 : decode cL_law 16 = .ok (.iconst 0, 1) := dk_3 (dk_at dksL_law_0 16 rfl rfl)
theorem dL_law_17 : decode cL_law 17 = .ok (.istore_n 3, 1) := dk_62 (dk_at dksL_law_0 17 rfl rfl)
theorem dL_law_18 : decode cL_law 18 = .ok (.iload_n 3, 1) := dk_29 (dk_at dksL_law_0 18 rfl rfl)
theorem dL_law_19 : decode cL_law 19 = .ok (.aload_n 0, 1) := dk_42 (dk_at dksL_law_0 19 rfl rfl)
theorem dL_law_20 : decode cL_law 20 = .ok (.arraylength, 1) := dk_190 (dk_at dksL_law_0 20 rfl rfl)
theorem dL_law_21 : decode cL_law 21 = .ok (.bipush 6, 2) := dk_16 6 (dk_at dksL_law_0 21 rfl rfl)
theorem dL_law_23 : decode cL_law 23 = .ok (.isub, 1) := dk_100 (dk_at dksL_law_0 23 rfl rfl)
theorem dL_law_24 : decode cL_law 24 = .ok (.if_icmp .gt 242, 3) := dk_163 0 242 (dk_at dksL_law_1 0 rfl rfl)
theorem dL_law_27 : decode cL_law 27 = .ok (.aload_n 0, 1) := dk_42 (dk_at dksL_law_1 3 rfl rfl)
theorem dL_law_28 : decode cL_law 28 = .ok (.iload_n 3, 1) := dk_29 (dk_at dksL_law_1 4 rfl rfl)
theorem dL_law_29 : decode cL_law 29 = .ok (.iaload, 1) := dk_46 (dk_at dksL_law_1 5 rfl rfl)
theorem dL_law_30 : decode cL_law 30 = .ok (.bipush 7, 2) := dk_16 7 (dk_at dksL_law_1 6 rfl rfl)
theorem dL_law_32 : decode cL_law 32 = .ok (.iand, 1) := dk_126 (dk_at dksL_law_1 8 rfl rfl)
theorem dL_law_33 : decode cL_law 33 = .ok (.tableswitch 227 0 5 #[39, 100, 151, 172, 193, 204], 39) := by decide +kernel
theorem dL_law_72 : decode cL_law 72 = .ok (.aload_n 1, 1) := dk_43 (dk_at dksL_law_3 0 rfl rfl)
theorem dL_law_73 : decode cL_law 73 = .ok (.aload_n 0, 1) := dk_42 (dk_at dksL_law_3 1 rfl rfl)
theorem dL_law_74 : decode cL_law 74 = .ok (.iload_n 3, 1) := dk_29 (dk_at dksL_law_3 2 rfl rfl)
theorem dL_law_75 : decode cL_law 75 = .ok (.iconst 1, 1) := dk_4 (dk_at dksL_law_3 3 rfl rfl)
theorem dL_law_76 : decode cL_law 76 = .ok (.iadd, 1) := dk_96 (dk_at dksL_law_3 4 rfl rfl)
theorem dL_law_77 : decode cL_law 77 = .ok (.iaload, 1) := dk_46 (dk_at dksL_law_3 5 rfl rfl)
theorem dL_law_78 : decode cL_law 78 = .ok (.aload_n 0, 1) := dk_42 (dk_at dksL_law_3 6 rfl rfl)
theorem dL_law_79 : decode cL_law 79 = .ok (.iload_n 3, 1) := dk_29 (dk_at dksL_law_3 7 rfl rfl)
theorem dL_law_80 : decode cL_law 80 = .ok (.iconst 2, 1) := dk_5 (dk_at dksL_law_3 8 rfl rfl)
theorem dL_law_81 : decode cL_law 81 = .ok (.iadd, 1) := dk_96 (dk_at dksL_law_3 9 rfl rfl)
theorem dL_law_82 : decode cL_law 82 = .ok (.iaload, 1) := dk_46 (dk_at dksL_law_3 10 rfl rfl)
theorem dL_law_83 : decode cL_law 83 = .ok (.aload_n 0, 1) := dk_42 (dk_at dksL_law_3 11 rfl rfl)
theorem dL_law_84 : decode cL_law 84 = .ok (.iload_n 3, 1) := dk_29 (dk_at dksL_law_3 12 rfl rfl)
theorem dL_law_85 : decode cL_law 85 = .ok (.iconst 3, 1) := dk_6 (dk_at dksL_law_3 13 rfl rfl)
theorem dL_law_86 : decode cL_law 86 = .ok (.iadd, 1) := dk_96 (dk_at dksL_law_3 14 rfl rfl)
theorem dL_law_87 : decode cL_law 87 = .ok (.iaload, 1) := dk_46 (dk_at dksL_law_3 15 rfl rfl)
theorem dL_law_88 : decode cL_law 88 = .ok (.aload_n 0, 1) := dk_42 (dk_at dksL_law_3 16 rfl rfl)
theorem dL_law_89 : decode cL_law 89 = .ok (.iload_n 3, 1) := dk_29 (dk_at dksL_law_3 17 rfl rfl)
theorem dL_law_90 : decode cL_law 90 = .ok (.iconst 4, 1) := dk_7 (dk_at dksL_law_3 18 rfl rfl)
theorem dL_law_91 : decode cL_law 91 = .ok (.iadd, 1) := dk_96 (dk_at dksL_law_3 19 rfl rfl)
theorem dL_law_92 : decode cL_law 92 = .ok (.iaload, 1) := dk_46 (dk_at dksL_law_3 20 rfl rfl)
theorem dL_law_93 : decode cL_law 93 = .ok (.aload_n 0, 1) := dk_42 (dk_at dksL_law_3 21 rfl rfl)
theorem dL_law_94 : decode cL_law 94 = .ok (.iload_n 3, 1) := dk_29 (dk_at dksL_law_3 22 rfl rfl)
theorem dL_law_95 : decode cL_law 95 = .ok (.iconst 5, 1) := dk_8 (dk_at dksL_law_3 23 rfl rfl)
theorem dL_law_96 : decode cL_law 96 = .ok (.iadd, 1) := dk_96 (dk_at dksL_law_4 0 rfl rfl)
theorem dL_law_97 : decode cL_law 97 = .ok (.iaload, 1) := dk_46 (dk_at dksL_law_4 1 rfl rfl)
theorem dL_law_98 : decode cL_law 98 = .ok (.invokevirtual 13, 3) := dk_182 0 13 (dk_at dksL_law_4 2 rfl rfl)
theorem dL_law_101 : decode cL_law 101 = .ok (.aload_n 2, 1) := dk_44 (dk_at dksL_law_4 5 rfl rfl)
theorem dL_law_102 : decode cL_law 102 = .ok (.aload_n 0, 1) := dk_42 (dk_at dksL_law_4 6 rfl rfl)
theorem dL_law_103 : decode cL_law 103 = .ok (.iload_n 3, 1) := dk_29 (dk_at dksL_law_4 7 rfl rfl)
theorem dL_law_104 : decode cL_law 104 = .ok (.iconst 1, 1) := dk_4 (dk_at dksL_law_4 8 rfl rfl)
theorem dL_law_105 : decode cL_law 105 = .ok (.iadd, 1) := dk_96 (dk_at dksL_law_4 9 rfl rfl)
theorem dL_law_106 : decode cL_law 106 = .ok (.iaload, 1) := dk_46 (dk_at dksL_law_4 10 rfl rfl)
theorem dL_law_107 : decode cL_law 107 = .ok (.aload_n 0, 1) := dk_42 (dk_at dksL_law_4 11 rfl rfl)
theorem dL_law_108 : decode cL_law 108 = .ok (.iload_n 3, 1) := dk_29 (dk_at dksL_law_4 12 rfl rfl)
theorem dL_law_109 : decode cL_law 109 = .ok (.iconst 2, 1) := dk_5 (dk_at dksL_law_4 13 rfl rfl)
theorem dL_law_110 : decode cL_law 110 = .ok (.iadd, 1) := dk_96 (dk_at dksL_law_4 14 rfl rfl)
theorem dL_law_111 : decode cL_law 111 = .ok (.iaload, 1) := dk_46 (dk_at dksL_law_4 15 rfl rfl)
theorem dL_law_112 : decode cL_law 112 = .ok (.aload_n 0, 1) := dk_42 (dk_at dksL_law_4 16 rfl rfl)
theorem dL_law_113 : decode cL_law 113 = .ok (.iload_n 3, 1) := dk_29 (dk_at dksL_law_4 17 rfl rfl)
theorem dL_law_114 : decode cL_law 114 = .ok (.iconst 3, 1) := dk_6 (dk_at dksL_law_4 18 rfl rfl)
theorem dL_law_115 : decode cL_law 115 = .ok (.iadd, 1) := dk_96 (dk_at dksL_law_4 19 rfl rfl)
theorem dL_law_116 : decode cL_law 116 = .ok (.iaload, 1) := dk_46 (dk_at dksL_law_4 20 rfl rfl)
theorem dL_law_117 : decode cL_law 117 = .ok (.aload_n 0, 1) := dk_42 (dk_at dksL_law_4 21 rfl rfl)
theorem dL_law_118 : decode cL_law 118 = .ok (.iload_n 3, 1) := dk_29 (dk_at dksL_law_4 22 rfl rfl)
theorem dL_law_119 : decode cL_law 119 = .ok (.iconst 4, 1) := dk_7 (dk_at dksL_law_4 23 rfl rfl)
theorem dL_law_120 : decode cL_law 120 = .ok (.iadd, 1) := dk_96 (dk_at dksL_law_5 0 rfl rfl)
theorem dL_law_121 : decode cL_law 121 = .ok (.iaload, 1) := dk_46 (dk_at dksL_law_5 1 rfl rfl)
theorem dL_law_122 : decode cL_law 122 = .ok (.aload_n 0, 1) := dk_42 (dk_at dksL_law_5 2 rfl rfl)
theorem dL_law_123 : decode cL_law 123 = .ok (.iload_n 3, 1) := dk_29 (dk_at dksL_law_5 3 rfl rfl)
theorem dL_law_124 : decode cL_law 124 = .ok (.iconst 5, 1) := dk_8 (dk_at dksL_law_5 4 rfl rfl)
theorem dL_law_125 : decode cL_law 125 = .ok (.iadd, 1) := dk_96 (dk_at dksL_law_5 5 rfl rfl)
theorem dL_law_126 : decode cL_law 126 = .ok (.iaload, 1) := dk_46 (dk_at dksL_law_5 6 rfl rfl)
theorem dL_law_127 : decode cL_law 127 = .ok (.invokevirtual 17, 3) := dk_182 0 17 (dk_at dksL_law_5 7 rfl rfl)
theorem dL_law_130 : decode cL_law 130 = .ok (.goto 130, 3) := dk_167 0 130 (dk_at dksL_law_5 10 rfl rfl)
theorem dL_law_133 : decode cL_law 133 = .ok (.aload_n 1, 1) := dk_43 (dk_at dksL_law_5 13 rfl rfl)
theorem dL_law_134 : decode cL_law 134 = .ok (.aload_n 0, 1) := dk_42 (dk_at dksL_law_5 14 rfl rfl)
theorem dL_law_135 : decode cL_law 135 = .ok (.iload_n 3, 1) := dk_29 (dk_at dksL_law_5 15 rfl rfl)
theorem dL_law_136 : decode cL_law 136 = .ok (.iconst 1, 1) := dk_4 (dk_at dksL_law_5 16 rfl rfl)
theorem dL_law_137 : decode cL_law 137 = .ok (.iadd, 1) := dk_96 (dk_at dksL_law_5 17 rfl rfl)
theorem dL_law_138 : decode cL_law 138 = .ok (.iaload, 1) := dk_46 (dk_at dksL_law_5 18 rfl rfl)
theorem dL_law_139 : decode cL_law 139 = .ok (.aload_n 0, 1) := dk_42 (dk_at dksL_law_5 19 rfl rfl)
theorem dL_law_140 : decode cL_law 140 = .ok (.iload_n 3, 1) := dk_29 (dk_at dksL_law_5 20 rfl rfl)
theorem dL_law_141 : decode cL_law 141 = .ok (.iconst 2, 1) := dk_5 (dk_at dksL_law_5 21 rfl rfl)
theorem dL_law_142 : decode cL_law 142 = .ok (.iadd, 1) := dk_96 (dk_at dksL_law_5 22 rfl rfl)
theorem dL_law_143 : decode cL_law 143 = .ok (.iaload, 1) := dk_46 (dk_at dksL_law_5 23 rfl rfl)
theorem dL_law_144 : decode cL_law 144 = .ok (.aload_n 0, 1) := dk_42 (dk_at dksL_law_6 0 rfl rfl)
theorem dL_law_145 : decode cL_law 145 = .ok (.iload_n 3, 1) := dk_29 (dk_at dksL_law_6 1 rfl rfl)
theorem dL_law_146 : decode cL_law 146 = .ok (.iconst 3, 1) := dk_6 (dk_at dksL_law_6 2 rfl rfl)
theorem dL_law_147 : decode cL_law 147 = .ok (.iadd, 1) := dk_96 (dk_at dksL_law_6 3 rfl rfl)
theorem dL_law_148 : decode cL_law 148 = .ok (.iaload, 1) := dk_46 (dk_at dksL_law_6 4 rfl rfl)
theorem dL_law_149 : decode cL_law 149 = .ok (.aload_n 0, 1) := dk_42 (dk_at dksL_law_6 5 rfl rfl)
theorem dL_law_150 : decode cL_law 150 = .ok (.iload_n 3, 1) := dk_29 (dk_at dksL_law_6 6 rfl rfl)
theorem dL_law_151 : decode cL_law 151 = .ok (.iconst 4, 1) := dk_7 (dk_at dksL_law_6 7 rfl rfl)
theorem dL_law_152 : decode cL_law 152 = .ok (.iadd, 1) := dk_96 (dk_at dksL_law_6 8 rfl rfl)
theorem dL_law_153 : decode cL_law 153 = .ok (.iaload, 1) := dk_46 (dk_at dksL_law_6 9 rfl rfl)
theorem dL_law_154 : decode cL_law 154 = .ok (.invokevirtual 18, 3) := dk_182 0 18 (dk_at dksL_law_6 10 rfl rfl)
theorem dL_law_157 : decode cL_law 157 = .ok (.aload_n 2, 1) := dk_44 (dk_at dksL_law_6 13 rfl rfl)
theorem dL_law_158 : decode cL_law 158 = .ok (.aload_n 0, 1) := dk_42 (dk_at dksL_law_6 14 rfl rfl)
theorem dL_law_159 : decode cL_law 159 = .ok (.iload_n 3, 1) := dk_29 (dk_at dksL_law_6 15 rfl rfl)
theorem dL_law_160 : decode cL_law 160 = .ok (.iconst 1, 1) := dk_4 (dk_at dksL_law_6 16 rfl rfl)
theorem dL_law_161 : decode cL_law 161 = .ok (.iadd, 1) := dk_96 (dk_at dksL_law_6 17 rfl rfl)
theorem dL_law_162 : decode cL_law 162 = .ok (.iaload, 1) := dk_46 (dk_at dksL_law_6 18 rfl rfl)
theorem dL_law_163 : decode cL_law 163 = .ok (.aload_n 0, 1) := dk_42 (dk_at dksL_law_6 19 rfl rfl)
theorem dL_law_164 : decode cL_law 164 = .ok (.iload_n 3, 1) := dk_29 (dk_at dksL_law_6 20 rfl rfl)
theorem dL_law_165 : decode cL_law 165 = .ok (.iconst 2, 1) := dk_5 (dk_at dksL_law_6 21 rfl rfl)
theorem dL_law_166 : decode cL_law 166 = .ok (.iadd, 1) := dk_96 (dk_at dksL_law_6 22 rfl rfl)
theorem dL_law_167 : decode cL_law 167 = .ok (.iaload, 1) := dk_46 (dk_at dksL_law_6 23 rfl rfl)
theorem dL_law_168 : decode cL_law 168 = .ok (.aload_n 0, 1) := dk_42 (dk_at dksL_law_7 0 rfl rfl)
theorem dL_law_169 : decode cL_law 169 = .ok (.iload_n 3, 1) := dk_29 (dk_at dksL_law_7 1 rfl rfl)
theorem dL_law_170 : decode cL_law 170 = .ok (.iconst 3, 1) := dk_6 (dk_at dksL_law_7 2 rfl rfl)
theorem dL_law_171 : decode cL_law 171 = .ok (.iadd, 1) := dk_96 (dk_at dksL_law_7 3 rfl rfl)
theorem dL_law_172 : decode cL_law 172 = .ok (.iaload, 1) := dk_46 (dk_at dksL_law_7 4 rfl rfl)
theorem dL_law_173 : decode cL_law 173 = .ok (.aload_n 0, 1) := dk_42 (dk_at dksL_law_7 5 rfl rfl)
theorem dL_law_174 : decode cL_law 174 = .ok (.iload_n 3, 1) := dk_29 (dk_at dksL_law_7 6 rfl rfl)
theorem dL_law_175 : decode cL_law 175 = .ok (.iconst 4, 1) := dk_7 (dk_at dksL_law_7 7 rfl rfl)
theorem dL_law_176 : decode cL_law 176 = .ok (.iadd, 1) := dk_96 (dk_at dksL_law_7 8 rfl rfl)
theorem dL_law_177 : decode cL_law 177 = .ok (.iaload, 1) := dk_46 (dk_at dksL_law_7 9 rfl rfl)
theorem dL_law_178 : decode cL_law 178 = .ok (.invokevirtual 22, 3) := dk_182 0 22 (dk_at dksL_law_7 10 rfl rfl)
theorem dL_law_181 : decode cL_law 181 = .ok (.goto 79, 3) := dk_167 0 79 (dk_at dksL_law_7 13 rfl rfl)
theorem dL_law_184 : decode cL_law 184 = .ok (.aload_n 1, 1) := dk_43 (dk_at dksL_law_7 16 rfl rfl)
theorem dL_law_185 : decode cL_law 185 = .ok (.aload_n 0, 1) := dk_42 (dk_at dksL_law_7 17 rfl rfl)
theorem dL_law_186 : decode cL_law 186 = .ok (.iload_n 3, 1) := dk_29 (dk_at dksL_law_7 18 rfl rfl)
theorem dL_law_187 : decode cL_law 187 = .ok (.iconst 1, 1) := dk_4 (dk_at dksL_law_7 19 rfl rfl)
theorem dL_law_188 : decode cL_law 188 = .ok (.iadd, 1) := dk_96 (dk_at dksL_law_7 20 rfl rfl)
theorem dL_law_189 : decode cL_law 189 = .ok (.iaload, 1) := dk_46 (dk_at dksL_law_7 21 rfl rfl)
theorem dL_law_190 : decode cL_law 190 = .ok (.invokevirtual 23, 3) := dk_182 0 23 (dk_at dksL_law_8 0 rfl rfl)
theorem dL_law_193 : decode cL_law 193 = .ok (.aload_n 2, 1) := dk_44 (dk_at dksL_law_8 3 rfl rfl)
theorem dL_law_194 : decode cL_law 194 = .ok (.aload_n 0, 1) := dk_42 (dk_at dksL_law_8 4 rfl rfl)
theorem dL_law_195 : decode cL_law 195 = .ok (.iload_n 3, 1) := dk_29 (dk_at dksL_law_8 5 rfl rfl)
theorem dL_law_196 : decode cL_law 196 = .ok (.iconst 1, 1) := dk_4 (dk_at dksL_law_8 6 rfl rfl)
theorem dL_law_197 : decode cL_law 197 = .ok (.iadd, 1) := dk_96 (dk_at dksL_law_8 7 rfl rfl)
theorem dL_law_198 : decode cL_law 198 = .ok (.iaload, 1) := dk_46 (dk_at dksL_law_8 8 rfl rfl)
theorem dL_law_199 : decode cL_law 199 = .ok (.invokevirtual 27, 3) := dk_182 0 27 (dk_at dksL_law_8 9 rfl rfl)
theorem dL_law_202 : decode cL_law 202 = .ok (.goto 58, 3) := dk_167 0 58 (dk_at dksL_law_8 12 rfl rfl)
theorem dL_law_205 : decode cL_law 205 = .ok (.aload_n 1, 1) := dk_43 (dk_at dksL_law_8 15 rfl rfl)
theorem dL_law_206 : decode cL_law 206 = .ok (.aload_n 0, 1) := dk_42 (dk_at dksL_law_8 16 rfl rfl)
theorem dL_law_207 : decode cL_law 207 = .ok (.iload_n 3, 1) := dk_29 (dk_at dksL_law_8 17 rfl rfl)
theorem dL_law_208 : decode cL_law 208 = .ok (.iconst 1, 1) := dk_4 (dk_at dksL_law_8 18 rfl rfl)
theorem dL_law_209 : decode cL_law 209 = .ok (.iadd, 1) := dk_96 (dk_at dksL_law_8 19 rfl rfl)
theorem dL_law_210 : decode cL_law 210 = .ok (.iaload, 1) := dk_46 (dk_at dksL_law_8 20 rfl rfl)
theorem dL_law_211 : decode cL_law 211 = .ok (.invokevirtual 28, 3) := dk_182 0 28 (dk_at dksL_law_8 21 rfl rfl)
theorem dL_law_214 : decode cL_law 214 = .ok (.aload_n 2, 1) := dk_44 (dk_at dksL_law_9 0 rfl rfl)
theorem dL_law_215 : decode cL_law 215 = .ok (.aload_n 0, 1) := dk_42 (dk_at dksL_law_9 1 rfl rfl)
theorem dL_law_216 : decode cL_law 216 = .ok (.iload_n 3, 1) := dk_29 (dk_at dksL_law_9 2 rfl rfl)
theorem dL_law_217 : decode cL_law 217 = .ok (.iconst 1, 1) := dk_4 (dk_at dksL_law_9 3 rfl rfl)
theorem dL_law_218 : decode cL_law 218 = .ok (.iadd, 1) := dk_96 (dk_at dksL_law_9 4 rfl rfl)
theorem dL_law_219 : decode cL_law 219 = .ok (.iaload, 1) := dk_46 (dk_at dksL_law_9 5 rfl rfl)
theorem dL_law_220 : decode cL_law 220 = .ok (.invokevirtual 31, 3) := dk_182 0 31 (dk_at dksL_law_9 6 rfl rfl)
theorem dL_law_223 : decode cL_law 223 = .ok (.goto 37, 3) := dk_167 0 37 (dk_at dksL_law_9 9 rfl rfl)
theorem dL_law_226 : decode cL_law 226 = .ok (.aload_n 1, 1) := dk_43 (dk_at dksL_law_9 12 rfl rfl)
theorem dL_law_227 : decode cL_law 227 = .ok (.invokevirtual 32, 3) := dk_182 0 32 (dk_at dksL_law_9 13 rfl rfl)
theorem dL_law_230 : decode cL_law 230 = .ok (.aload_n 2, 1) := dk_44 (dk_at dksL_law_9 16 rfl rfl)
theorem dL_law_231 : decode cL_law 231 = .ok (.invokevirtual 35, 3) := dk_182 0 35 (dk_at dksL_law_9 17 rfl rfl)
theorem dL_law_234 : decode cL_law 234 = .ok (.goto 26, 3) := dk_167 0 26 (dk_at dksL_law_9 20 rfl rfl)
theorem dL_law_237 : decode cL_law 237 = .ok (.aload_n 1, 1) := dk_43 (dk_at dksL_law_9 23 rfl rfl)
theorem dL_law_238 : decode cL_law 238 = .ok (.aload_n 0, 1) := dk_42 (dk_at dksL_law_10 0 rfl rfl)
theorem dL_law_239 : decode cL_law 239 = .ok (.iload_n 3, 1) := dk_29 (dk_at dksL_law_10 1 rfl rfl)
theorem dL_law_240 : decode cL_law 240 = .ok (.iconst 1, 1) := dk_4 (dk_at dksL_law_10 2 rfl rfl)
theorem dL_law_241 : decode cL_law 241 = .ok (.iadd, 1) := dk_96 (dk_at dksL_law_10 3 rfl rfl)
theorem dL_law_242 : decode cL_law 242 = .ok (.iaload, 1) := dk_46 (dk_at dksL_law_10 4 rfl rfl)
theorem dL_law_243 : decode cL_law 243 = .ok (.invokevirtual 36, 3) := dk_182 0 36 (dk_at dksL_law_10 5 rfl rfl)
theorem dL_law_246 : decode cL_law 246 = .ok (.aload_n 2, 1) := dk_44 (dk_at dksL_law_10 8 rfl rfl)
theorem dL_law_247 : decode cL_law 247 = .ok (.aload_n 0, 1) := dk_42 (dk_at dksL_law_10 9 rfl rfl)
theorem dL_law_248 : decode cL_law 248 = .ok (.iload_n 3, 1) := dk_29 (dk_at dksL_law_10 10 rfl rfl)
theorem dL_law_249 : decode cL_law 249 = .ok (.iconst 1, 1) := dk_4 (dk_at dksL_law_10 11 rfl rfl)
theorem dL_law_250 : decode cL_law 250 = .ok (.iadd, 1) := dk_96 (dk_at dksL_law_10 12 rfl rfl)
theorem dL_law_251 : decode cL_law 251 = .ok (.iaload, 1) := dk_46 (dk_at dksL_law_10 13 rfl rfl)
theorem dL_law_252 : decode cL_law 252 = .ok (.invokevirtual 40, 3) := dk_182 0 40 (dk_at dksL_law_10 14 rfl rfl)
theorem dL_law_255 : decode cL_law 255 = .ok (.if_icmp .eq 5, 3) := dk_159 0 5 (dk_at dksL_law_10 17 rfl rfl)
theorem dL_law_258 : decode cL_law 258 = .ok (.iconst 0, 1) := dk_3 (dk_at dksL_law_10 20 rfl rfl)
theorem dL_law_259 : decode cL_law 259 = .ok (.ireturn, 1) := dk_172 (dk_at dksL_law_10 21 rfl rfl)
theorem dL_law_260 : decode cL_law 260 = .ok (.iinc 3 6, 3) := dk_132 3 6 (dk_at dksL_law_11 0 rfl rfl)
theorem dL_law_263 : decode cL_law 263 = .ok (.goto (-245), 3) := dk_167 255 11 (dk_at dksL_law_11 3 rfl rfl)
theorem dL_law_266 : decode cL_law 266 = .ok (.iconst 1, 1) := dk_4 (dk_at dksL_law_11 6 rfl rfl)
theorem dL_law_267 : decode cL_law 267 = .ok (.ireturn, 1) := dk_172 (dk_at dksL_law_11 7 rfl rfl)
end
section
/-! ===== the world of SeedDesk: classes, tables, what a contract's start says ===== -/
abbrev sd_cl : List vw_C := [(RX0, TX0, 3), (RX1, TX1, 3), (RX2, TX2, 3), (RX3, TX3, 1)]
abbrev sd_ty (cB cI : ClassId) : List (ClassId × FieldType) := [(cB, .byte), (cI, .int)]
/-- a static table of ints, that no cell of A is -/
def sd_tab (C n : String) (N : Nat) (f : Nat → Int32) (A : Nat → Prop) (U : State) : Prop := ∃ t : Nat, va_Z C n "[I" (.ref t) A U U.heap ∧ va_T .int t N (fun j => .int (f j)) A U U.heap
theorem sd_tab.to {C n : String} {N : Nat} {f : Nat → Int32} {A A' : Nat → Prop} {s U : State} {H : Heap} {locs : List Loc} (h : sd_tab C n N f A s) (hS : va_S A s.heap H locs) (hA : ∀ q, A' q → A q) (hU : U.heap = H) (hvm : s.vm.Alike U.vm) : sd_tab C n N f A' U := by
  obtain ⟨t, h1, h2⟩ := h
  refine ⟨t, ?_, ?_⟩
  · rw [hU]
    exact ((h1.kept (fun a h1 h2 => hS.2.1 a h1 h2)).moved hvm).narrow hA
  · rw [hU]
    exact ((h2.kept (fun a h1 h2 => hS.2.1 a h1 h2)).moved hvm).narrow hA
def sd_xI : MethodName := ⟨"BlockCipher", "init", "(ZLCipherParameters;)V"⟩
def sd_xP : MethodName := ⟨"BlockCipher", "processBlock", "([BI[BI)I"⟩
/-- what every method may lean on: the tables, and the words of the interface's calls -/
def sd_V (A : Nat → Prop) (U : State) : Prop := (sd_tab "SEEDEngine" "SS0" 256 sd_s0 A U ∧ sd_tab "SEEDEngine" "SS1" 256 sd_s1 A U ∧ sd_tab "SEEDEngine" "SS2" 256 sd_s2 A U ∧ sd_tab "SEEDEngine" "SS3" 256 sd_s3 A U) ∧ sd_tab "SEEDEngine" "KC" 16 sd_kc A U ∧ (sd_tab "SeedDeskModel" "FIRST" 256 sd_first A U ∧ sd_tab "SeedDeskModel" "SECOND" 256 sd_second A U ∧ sd_tab "SeedDeskModel" "MASKS" 4 sd_masks A U) ∧ va_Fw "SEEDEngine" sd_xI yX2_init_2 U ∧ va_Fw "SEEDEngine" sd_xP yX2_processBlock U
theorem sd_V.to {A A' : Nat → Prop} {s U : State} {H : Heap} {locs : List Loc} (h : sd_V A s) (hS : va_S A s.heap H locs) (hA : ∀ q, A' q → A q) (hU : U.heap = H) (hvm : s.vm.Alike U.vm) : sd_V A' U := by
  obtain ⟨⟨a, b, c, d⟩, k, ⟨f, g, m⟩, i, p⟩ := h
  exact ⟨⟨a.to hS hA hU hvm, b.to hS hA hU hvm, c.to hS hA hU hvm, d.to hS hA hU hvm⟩, k.to hS hA hU hvm, ⟨f.to hS hA hU hvm, g.to hS hA hU hvm, m.to hS hA hU hvm⟩, i.moved (by decide +kernel) hvm, p.moved (by decide +kernel) hvm⟩
/-- a contract's start: the cells ws, apart; the classes; the tables -/
def sd_pre (D : va_G) (cB cI : ClassId) (ws : va_W) (sz : Nat) (U : State) : Prop := U.heap.size = sz ∧ va_P D sd_cl ws U.heap ∧ va_K D sd_cl (sd_ty cB cI) U ∧ va_D (fun _ => True) ws ∧ sd_V (va_A ws sz) U
/-- a reader's start: the cells ws, which it only reads -/
def sd_pur (D : va_G) (cB cI : ClassId) (ws : va_W) (U : State) : Prop := va_P D sd_cl ws U.heap ∧ va_K D sd_cl (sd_ty cB cI) U ∧ sd_V (fun _ => False) U
theorem sd_pre.blind {D : va_G} {cB cI : ClassId} {ws : va_W} {sz : Nat} {av : List Value} : FrameBlind (va_Pc av (sd_pre D cB cI ws sz)) := by
  intro a U g mk q
  obtain ⟨q0, q1, qP, qK, qD, qV⟩ := q
  exact ⟨q0, q1, qP, va_K.moved (u := U) (U := U.calling g mk a) (Vm.Alike.refl U.vm) qK, qD, qV.to (s := U) (U := U.calling g mk a) (locs := []) va_S.rf (fun _ h => h) rfl (Vm.Alike.refl U.vm)⟩
theorem sd_pur.blind {D : va_G} {cB cI : ClassId} {ws : va_W} {av : List Value} : FrameBlind (va_Pc av (sd_pur D cB cI ws)) := by
  intro a U g mk q
  obtain ⟨q0, qP, qK, qV⟩ := q
  exact ⟨q0, qP, va_K.moved (u := U) (U := U.calling g mk a) (Vm.Alike.refl U.vm) qK, qV.to (s := U) (U := U.calling g mk a) (locs := []) va_S.rf (fun _ h => h) rfl (Vm.Alike.refl U.vm)⟩
section SDB
variable {D : va_G} {cB cI : ClassId} {s : State} {A : Nat → Prop} {H : Heap} {locs : List Loc} {wc ws : va_W} {As : List Value}
theorem sd_preS (hK : va_K D sd_cl (sd_ty cB cI) s) (hV : sd_V A s) (hS : va_S A s.heap H locs) (hP : va_P D sd_cl wc H) (hD : va_D A wc) (hF : ∀ q, va_A wc H.size q → A q) : PreS s H (va_Pc As (sd_pre D cB cI wc H.size)) As :=
  ⟨sd_pre.blind, fun U hU hW => ⟨rfl, by rw [hU], by rw [hU]; exact hP, va_K.moved hW.alike hK, hD.weaken (fun _ _ _ _ => trivial), hV.to hS hF hU hW.alike⟩⟩
theorem sd_preV {C : String} {b : Nat} (hr : ∃ cell : Cell, H[b]? = some cell ∧ cell.vm.isStatics = false ∧ s.vm.findClass C = some cell.cls) (hK : va_K D sd_cl (sd_ty cB cI) s) (hV : sd_V A s) (hS : va_S A s.heap H locs) (hP : va_P D sd_cl wc H) (hD : va_D A wc) (hF : ∀ q, va_A wc H.size q → A q) : PreV s H C b (va_Pc (.ref b :: As) (sd_pre D cB cI wc H.size)) As :=
  ⟨sd_pre.blind, hr, fun U hU hW => ⟨rfl, by rw [hU], by rw [hU]; exact hP, va_K.moved hW.alike hK, hD.weaken (fun _ _ _ _ => trivial), hV.to hS hF hU hW.alike⟩⟩
theorem sd_purS (hK : va_K D sd_cl (sd_ty cB cI) s) (hV : sd_V A s) (hS : va_S A s.heap H locs) (hP : va_P D sd_cl wc H) : PreS s H (va_Pc As (sd_pur D cB cI wc)) As :=
  ⟨sd_pur.blind, fun U hU hW => ⟨rfl, by rw [hU]; exact hP, va_K.moved hW.alike hK, hV.to hS (fun _ h => h.elim) hU hW.alike⟩⟩
theorem sd_purV {C : String} {b : Nat} (hr : ∃ cell : Cell, H[b]? = some cell ∧ cell.vm.isStatics = false ∧ s.vm.findClass C = some cell.cls) (hK : va_K D sd_cl (sd_ty cB cI) s) (hV : sd_V A s) (hS : va_S A s.heap H locs) (hP : va_P D sd_cl wc H) : PreV s H C b (va_Pc (.ref b :: As) (sd_pur D cB cI wc)) As :=
  ⟨sd_pur.blind, hr, fun U hU hW => ⟨rfl, by rw [hU]; exact hP, va_K.moved hW.alike hK, hV.to hS (fun _ h => h.elim) hU hW.alike⟩⟩
/-- the world stays where a callee got none of it -/
theorem sd_keep {H1 : Heap} (hP : va_P D sd_cl ws H) (hk : ∀ q : Nat, q < H.size → ¬ va_A [] H.size q → H1[q]? = H[q]?) : va_P D sd_cl ws H1 := by
  refine hP.kept (fun k q hq => hk q.1 (hP k q hq).lt ?_)
  rintro (⟨k2, e, h⟩ | h)
  · simp at h
  · have := (hP k q hq).lt
    omega
/-- one array class a type -/
theorem sd_one {tys : List (ClassId × FieldType)} {a b : ClassId} {ty : FieldType} (hK : va_K D sd_cl tys s) (i j : Nat) (hi : tys[i]? = some (a, ty)) (hj : tys[j]? = some (b, ty)) (hp : ∀ C, ty ≠ .object C) : a = b := by
  have h1 := (hK.2 i _ hi).2
  have h2 := (hK.2 j _ hj).2
  cases ty with
  | object C => exact absurd rfl (hp C)
  | _ =>
    have e1 : s.vm.findClass _ = some a := h1
    have e2 : s.vm.findClass _ = some b := h2
    exact Option.some.inj (e1.symm.trans e2)
end SDB
section SDR
variable {p : Program} {l : Launch} {e : Env} {R : Room} {s : State} {m : MethodId} {args : Array Value} {below : List Frame} {meth : Method} {c : Code} {H : Heap} {locs : List Loc} {cells slots : Nat} {Q : State → Prop}
variable {cc : ByteArray} {pc : Nat} {ls : Array Slot} {rest : List Value} {D : va_G} {cl : List vw_C} {A : Nat → Prop} {a : Nat} {tys : List (ClassId × FieldType)} {ws : va_W} {H0 : Heap} {cB cI : ClassId}
theorem sd_top {x y : Int32} (h : x = y) (k : W p l e R s m args below meth c H locs cells slots Q (F0 m pc ls (.int y :: rest))) : W p l e R s m args below meth c H locs cells slots Q (F0 m pc ls (.int x :: rest)) := h ▸ k
theorem sd_topL {x y : Int64} (h : x = y) (k : W p l e R s m args below meth c H locs cells slots Q (F0 m pc ls (.long y :: rest))) : W p l e R s m args below meth c H locs cells slots Q (F0 m pc ls (.long x :: rest)) := h ▸ k
theorem sd_iald (hexec : p.tables.exec = Jvm.exec) (hb : c.code = cc) (hK : va_K D cl tys s) (hP : va_P D cl ws H) (q0 t0 : Nat) {cA : ClassId} {n : Nat} {f : Nat → Int32} (ha : ws[q0]? = some (a, .inl (cA, n, .inl f))) (ht : tys[t0]? = some (cA, .int)) {i : Int32} {k : Nat} (hi : i = nI k) (hk : k < n) (hn : n < 2 ^ 31) (hdg : decode cc pc = .ok (.iaload, 1))
    (kk : W p l e R s m args below meth c H locs cells slots Q (F0 m (pc + 1) ls (.int (f k) :: rest))) : W p l e R s m args below meth c H locs cells slots Q (F0 m pc ls (.int i :: .ref a :: rest)) := by
  subst hi
  refine va_iald hexec hb hK hP q0 t0 ha ht (vp_in_nI hk hn) hdg ?_
  rw [nI_clamp (Nat.lt_trans hk hn)]
  exact kk
theorem sd_bald (hexec : p.tables.exec = Jvm.exec) (hb : c.code = cc) (hK : va_K D cl tys s) (hP : va_P D cl ws H) (q0 t0 : Nat) {cA : ClassId} {n : Nat} {f : Nat → Int32} (ha : ws[q0]? = some (a, .inl (cA, n, .inl f))) (ht : tys[t0]? = some (cA, .byte)) {i : Int32} {k : Nat} (hi : i = nI k) (hk : k < n) (hn : n < 2 ^ 31) (hdg : decode cc pc = .ok (.baload, 1))
    (kk : W p l e R s m args below meth c H locs cells slots Q (F0 m (pc + 1) ls (.int (f k) :: rest))) : W p l e R s m args below meth c H locs cells slots Q (F0 m pc ls (.int i :: .ref a :: rest)) := by
  subst hi
  refine va_bald hexec hb hK hP q0 t0 ha ht (vp_in_nI hk hn) hdg ?_
  rw [nI_clamp (Nat.lt_trans hk hn)]
  exact kk
theorem sd_iast (hexec : p.tables.exec = Jvm.exec) (hb : c.code = cc) (hK : va_K D cl tys s) (hP : va_P D cl ws H) (hD : va_D A ws) (hS : va_S A H0 H locs) (q0 t0 : Nat) {cA : ClassId} {n : Nat} {f : Nat → Int32} (ha : ws[q0]? = some (a, .inl (cA, n, .inl f))) (ht : tys[t0]? = some (cA, .int)) {i x : Int32} {k : Nat} (hi : i = nI k) (hk : k < n) (hn : n < 2 ^ 31) (hdg : decode cc pc = .ok (.iastore, 1))
    (kk : ∀ (H1 : Heap) (locs1 : List Loc), va_P D cl (ws.set q0 (a, .inl (cA, n, .inl (upd f k x)))) H1 → va_D A (ws.set q0 (a, .inl (cA, n, .inl (upd f k x)))) → va_S A H0 H1 locs1 → W p l e R s m args below meth c H1 locs1 cells slots Q (F0 m (pc + 1) ls rest)) : W p l e R s m args below meth c H locs cells slots Q (F0 m pc ls (.int x :: .int i :: .ref a :: rest)) := by
  subst hi
  have hc : (nI k).toNatClampNeg = k := nI_clamp (Nat.lt_trans hk hn)
  refine va_iast hexec hb hK hP hD hS q0 t0 ha ht (vp_in_nI hk hn) hdg (fun H1 locs1 h1 h2 h3 => ?_)
  rw [hc] at h1 h2
  exact kk H1 locs1 h1 h2 h3
theorem sd_bast (hexec : p.tables.exec = Jvm.exec) (hb : c.code = cc) (hK : va_K D cl tys s) (hP : va_P D cl ws H) (hD : va_D A ws) (hS : va_S A H0 H locs) (q0 t0 : Nat) {cA : ClassId} {n : Nat} {f : Nat → Int32} (ha : ws[q0]? = some (a, .inl (cA, n, .inl f))) (ht : tys[t0]? = some (cA, .byte)) {i x y : Int32} {k : Nat} (hi : i = nI k) (hk : k < n) (hn : n < 2 ^ 31) (hy : vp_nar .byte x = y) (hdg : decode cc pc = .ok (.bastore, 1))
    (kk : ∀ (H1 : Heap) (locs1 : List Loc), va_P D cl (ws.set q0 (a, .inl (cA, n, .inl (upd f k y)))) H1 → va_D A (ws.set q0 (a, .inl (cA, n, .inl (upd f k y)))) → va_S A H0 H1 locs1 → W p l e R s m args below meth c H1 locs1 cells slots Q (F0 m (pc + 1) ls rest)) : W p l e R s m args below meth c H locs cells slots Q (F0 m pc ls (.int x :: .int i :: .ref a :: rest)) := by
  subst hi
  subst hy
  have hc : (nI k).toNatClampNeg = k := nI_clamp (Nat.lt_trans hk hn)
  refine va_bast hexec hb hK hP hD hS q0 t0 ha ht (vp_in_nI hk hn) hdg (fun H1 locs1 h1 h2 h3 => ?_)
  rw [hc] at h1 h2
  exact kk H1 locs1 h1 h2 h3
theorem sd_newI (hexec : p.tables.exec = Jvm.exec) (hb : c.code = cc) (hts : ∀ w ∈ lw_all, w.before args s = true) (hK : va_K D sd_cl (sd_ty cB cI) s) (hP : va_P D sd_cl ws H) (hD : va_D A ws) (hS : va_S A H0 H locs) (hA : ∀ q, H0.size ≤ q → A q) {n : Int32} (N : Nat) (hn : ¬ n < 0) (hN : n.toNatClampNeg = N) (hby : N * componentBytes .int ≤ 536870912) (hcells : cells + 1 ≤ R.cells) (hslots : slots + N ≤ R.slots) (hdg : decode cc pc = .ok (.newarray .int, 2))
    (kk : ∀ (q : Nat) (H1 : Heap), va_P D sd_cl (ws ++ [(q, .inl (cI, N, .inl (fun _ => 0)))]) H1 → va_D A (ws ++ [(q, .inl (cI, N, .inl (fun _ => 0)))]) → va_S A H0 H1 locs →
      W p l e R s m args below meth c H1 locs (cells + 1) (slots + N) Q (F0 m (pc + 2) ls (.ref q :: rest))) : W p l e R s m args below meth c H locs cells slots Q (F0 m pc ls (.int n :: rest)) := by
  refine va_newa (atype := .int) (ty := .int) (a0 := (N, .inl (fun _ => 0))) hexec hb (hts _ q251) rfl hK hP hD hS hA (fun _ => rfl) hn hN hby hcells hslots hdg (fun q cA H1 hK1 hP1 hD1 hS1 => ?_)
  have e := sd_one hK1 2 1 rfl rfl (fun C h => by cases h)
  subst e
  exact kk q H1 hP1 hD1 hS1
theorem sd_newB (hexec : p.tables.exec = Jvm.exec) (hb : c.code = cc) (hts : ∀ w ∈ lw_all, w.before args s = true) (hK : va_K D sd_cl (sd_ty cB cI) s) (hP : va_P D sd_cl ws H) (hD : va_D A ws) (hS : va_S A H0 H locs) (hA : ∀ q, H0.size ≤ q → A q) {n : Int32} (N : Nat) (hn : ¬ n < 0) (hN : n.toNatClampNeg = N) (hby : N * componentBytes .byte ≤ 536870912) (hcells : cells + 1 ≤ R.cells) (hslots : slots + N ≤ R.slots) (hdg : decode cc pc = .ok (.newarray .byte, 2))
    (kk : ∀ (q : Nat) (H1 : Heap), va_P D sd_cl (ws ++ [(q, .inl (cB, N, .inl (fun _ => 0)))]) H1 → va_D A (ws ++ [(q, .inl (cB, N, .inl (fun _ => 0)))]) → va_S A H0 H1 locs →
      W p l e R s m args below meth c H1 locs (cells + 1) (slots + N) Q (F0 m (pc + 2) ls (.ref q :: rest))) : W p l e R s m args below meth c H locs cells slots Q (F0 m pc ls (.int n :: rest)) := by
  refine va_newa (atype := .byte) (ty := .byte) (a0 := (N, .inl (fun _ => 0))) hexec hb (hts _ q47) rfl hK hP hD hS hA (fun _ => rfl) hn hN hby hcells hslots hdg (fun q cA H1 hK1 hP1 hD1 hS1 => ?_)
  have e := sd_one hK1 2 0 rfl rfl (fun C h => by cases h)
  subst e
  exact kk q H1 hP1 hD1 hS1
/-- a table's place, the index masked or not -/
theorem sd_ti (hexec : p.tables.exec = Jvm.exec) (hb : c.code = cc) {t N : Nat} {f : Nat → Int32} (hT : va_T .int t N (fun j => .int (f j)) A s s.heap) (hS : va_S A s.heap H locs) {i : Int32} (hin : vp_in i N) (hdg : decode cc pc = .ok (.iaload, 1))
    (kk : W p l e R s m args below meth c H locs cells slots Q (F0 m (pc + 1) ls (.int (f i.toNatClampNeg) :: rest))) : W p l e R s m args below meth c H locs cells slots Q (F0 m pc ls (.int i :: .ref t :: rest)) := va_ti hexec hb hT hS hin rfl hdg kk
theorem sd_tk (hexec : p.tables.exec = Jvm.exec) (hb : c.code = cc) {t N : Nat} {f : Nat → Int32} (hT : va_T .int t N (fun j => .int (f j)) A s s.heap) (hS : va_S A s.heap H locs) {i : Int32} {k : Nat} (hi : i = nI k) (hk : k < N) (hn : N < 2 ^ 31) (hdg : decode cc pc = .ok (.iaload, 1))
    (kk : W p l e R s m args below meth c H locs cells slots Q (F0 m (pc + 1) ls (.int (f k) :: rest))) : W p l e R s m args below meth c H locs cells slots Q (F0 m pc ls (.int i :: .ref t :: rest)) := by
  subst hi
  refine va_ti hexec hb hT hS (vp_in_nI hk hn) (v := .int (f k)) ?_ hdg kk
  show Value.int (f (nI k).toNatClampNeg) = _
  rw [nI_clamp (Nat.lt_trans hk hn)]
end SDR
/-- a reader's contract, from its entry -/
theorem sd_met {l : Launch} {y : MethodName} {code : ByteArray} {maxL : Nat} {ret : Option FieldType} {rm : Room} {B : State → Prop} {Qc : Array Value → State → Outcome → State → Prop} {mc ms : Nat} {free : Addr → Prop} {vs : List Value} (hy : plainName y.cls = true) (hvs : (lg_sl vs).length ≤ maxL)
    (body : ∀ (p : Program) (e : Env) (s : State) (m : MethodId) (below : List Frame) (meth : Method) (c : Code) (ls : Array Slot), p.tables.exec = Jvm.exec → c.code = code → meth.sig.returnType = ret → c.maxLocals = maxL → (∀ w ∈ lw_all, w.before vs.toArray s = true) → s.vm.findClass y.cls = some m.cls → meth.locks = false → meth.name = y.name → B s → lv_has ls maxL (lv_args 0 vs) →
      W p l e rm s m vs.toArray below meth c s.heap [] 0 0 (MQ below Qc vs.toArray s mc ms free) (F0 m 0 ls [])) : Met l y (ws_ y code maxL ret) rm (va_Pc vs B) Qc mc ms free := by
  refine Met.ofW (cc := code) (maxL := maxL) (ret := ret) hy rfl ?_
  intro p e s m args below meth c s₁ Bd hml hv
  obtain ⟨rfl, hB⟩ := hv
  have hts := atoms_spec (ws := ws_ y code maxL ret) Bd.pre
  have hl := lv_entry vs (n := maxL) hvs
  rw [lg_entry_eq]
  generalize (lg_sl vs ++ List.replicate (maxL - (lg_sl vs).length) Slot.unset).toArray = ls at hl ⊢
  exact body p e s m below meth c ls Bd.exec Bd.bytes Bd.returns hml (fun w h => hts w (List.mem_cons_of_mem _ h)) (findClass_of_methodNamed Bd.named) Bd.notSynchronized (name_of_methodNamed Bd.named Bd.method).1 hB hl
/-- a contract over a world, from its entry -/
theorem sd_metW {l : Launch} {y : MethodName} {code : ByteArray} {maxL : Nat} {ret : Option FieldType} {rm : Room} {D : va_G} {cB cI : ClassId} {ws : va_W} {sz : Nat} {Qc : (Nat → Prop) → Array Value → State → Outcome → State → Prop} {mc ms : Nat} {vs : List Value} (hy : plainName y.cls = true) (hvs : (lg_sl vs).length ≤ maxL)
    (body : ∀ (p : Program) (e : Env) (s : State) (m : MethodId) (below : List Frame) (meth : Method) (c : Code) (ls : Array Slot) (A : Nat → Prop), p.tables.exec = Jvm.exec → c.code = code → meth.sig.returnType = ret → c.maxLocals = maxL → (∀ w ∈ lw_all, w.before vs.toArray s = true) → s.vm.findClass y.cls = some m.cls → meth.locks = false → meth.name = y.name →
      va_P D sd_cl ws s.heap → va_K D sd_cl (sd_ty cB cI) s → va_D A ws → sd_V A s → (∀ q : Nat, s.heap.size ≤ q → A q) → va_S A s.heap s.heap [] → lv_has ls maxL (lv_args 0 vs) →
      W p l e rm s m vs.toArray below meth c s.heap [] 0 0 (MQ below (Qc A) vs.toArray s mc ms A) (F0 m 0 ls [])) : Met l y (ws_ y code maxL ret) rm (va_Pc vs (sd_pre D cB cI ws sz)) (Qc (va_A ws sz)) mc ms (va_A ws sz) := by
  refine sd_met hy hvs ?_
  intro p e s m below meth c ls hx hb hr hml hts hown hlocks hname hB hl
  obtain ⟨hsz, hP, hK, hD0, hV⟩ := hB
  subst hsz
  exact body p e s m below meth c ls _ hx hb hr hml hts hown hlocks hname hP hK hD0.self hV (fun q h => Or.inr h) va_S.rf hl
end
section
/-! ===== SEEDEngine: the readers ===== -/
set_option maxHeartbeats 4000000 in
set_option maxRecDepth 100000 in
/-- G(x) -/
theorem mt_G (l : Launch) (dC : Nat → ClassId) (dI : Nat → Nat → Nat) (cB cI : ClassId) (h0 : Nat) (x : Int32) : Met l yX2_G (ws_ yX2_G cX2_G 2 (some .int)) ({ frames := 0, cells := 0, slots := 0, locals := 0 } : Room) (va_Pc [.ref h0, .int x] (sd_pur (dC, dI) cB cI [])) (vp_Si (fun r => r = sd_G x)) 0 0 (fun _ => False) := by
  refine sd_met (by decide) (Nat.le_of_ble_eq_true rfl) ?_
  intro p e s m below meth c ls hx hb hr hml hts hown hlocks hname hB hl
  obtain ⟨hP, hK, hV⟩ := hB
  have hS : va_S (fun _ => False) s.heap s.heap [] := va_S.rf
  have hown : s.vm.findClass RX2 = some m.cls := hown
  have hl : lv_has ls 2 [(0, .ref h0), (1, .int x)] := hl
  obtain ⟨⟨⟨t0, hZ0, hT0⟩, ⟨t1, hZ1, hT1⟩, ⟨t2, hZ2, hT2⟩, ⟨t3, hZ3, hT3⟩⟩, -⟩ := id hV
  refine va_gets hx hb hZ0 hS hown (hts _ q210) (fun _ h9 => h9) dX2_G_0 ?_
  refine lv_iload_n hx hb dX2_G_3 rfl (lv_at hl 1 rfl) ?_
  refine lv_sipush (v := 255) hx hb dX2_G_4 (by decide) ?_
  refine lv_iand hx hb dX2_G_7 ?_
  refine sd_ti hx hb hT0 hS (pk_andIn _ 8 (by decide) (by decide)) dX2_G_8 ?_
  refine va_gets hx hb hZ1 hS hown (hts _ q212) (fun _ h9 => h9) dX2_G_9 ?_
  refine lv_iload_n hx hb dX2_G_12 rfl (lv_at hl 1 rfl) ?_
  refine lv_bipush (v := 8) hx hb dX2_G_13 (by decide) ?_
  refine lv_ishr hx hb dX2_G_15 ?_
  refine lv_sipush (v := 255) hx hb dX2_G_16 (by decide) ?_
  refine lv_iand hx hb dX2_G_19 ?_
  refine sd_ti hx hb hT1 hS (pk_andIn _ 8 (by decide) (by decide)) dX2_G_20 ?_
  refine lv_ixor hx hb dX2_G_21 ?_
  refine va_gets hx hb hZ2 hS hown (hts _ q214) (fun _ h9 => h9) dX2_G_22 ?_
  refine lv_iload_n hx hb dX2_G_25 rfl (lv_at hl 1 rfl) ?_
  refine lv_bipush (v := 16) hx hb dX2_G_26 (by decide) ?_
  refine lv_ishr hx hb dX2_G_28 ?_
  refine lv_sipush (v := 255) hx hb dX2_G_29 (by decide) ?_
  refine lv_iand hx hb dX2_G_32 ?_
  refine sd_ti hx hb hT2 hS (pk_andIn _ 8 (by decide) (by decide)) dX2_G_33 ?_
  refine lv_ixor hx hb dX2_G_34 ?_
  refine va_gets hx hb hZ3 hS hown (hts _ q216) (fun _ h9 => h9) dX2_G_35 ?_
  refine lv_iload_n hx hb dX2_G_38 rfl (lv_at hl 1 rfl) ?_
  refine lv_bipush (v := 24) hx hb dX2_G_39 (by decide) ?_
  refine lv_ishr hx hb dX2_G_41 ?_
  refine lv_sipush (v := 255) hx hb dX2_G_42 (by decide) ?_
  refine lv_iand hx hb dX2_G_45 ?_
  refine sd_ti hx hb hT3 hS (pk_andIn _ 8 (by decide) (by decide)) dX2_G_46 ?_
  refine lv_ixor hx hb dX2_G_47 ?_
  exact W.iret (v := ((((sd_s0 ((x &&& 255)).toNatClampNeg) ^^^ (sd_s1 (((x >>> (8 &&& 31)) &&& 255)).toNatClampNeg)) ^^^ (sd_s2 (((x >>> (16 &&& 31)) &&& 255)).toNatClampNeg)) ^^^ (sd_s3 (((x >>> (24 &&& 31)) &&& 255)).toNatClampNeg))) hx hb hr (fun t ht hW => ⟨_, rfl, rfl, ht⟩) (fun q h => absurd h List.not_mem_nil) dX2_G_48
set_option maxHeartbeats 4000000 in
set_option maxRecDepth 100000 in
/-- extractW0 the high word -/
theorem mt_extractW0 (l : Launch) (dC : Nat → ClassId) (dI : Nat → Nat → Nat) (cB cI : ClassId) (h0 : Nat) (v : Int64) : Met l yX2_extractW0 (ws_ yX2_extractW0 cX2_extractW0 3 (some .int)) ({ frames := 0, cells := 0, slots := 0, locals := 0 } : Room) (va_Pc [.ref h0, .long v] (sd_pur (dC, dI) cB cI [])) (vp_Si (fun r => r = (v >>> ((32 : Int32).toInt64 &&& 63)).toInt32)) 0 0 (fun _ => False) := by
  refine sd_met (by decide) (Nat.le_of_ble_eq_true rfl) ?_
  intro p e s m below meth c ls hx hb hr hml hts hown hlocks hname hB hl
  obtain ⟨hP, hK, hV⟩ := hB
  have hS : va_S (fun _ => False) s.heap s.heap [] := va_S.rf
  have hown : s.vm.findClass RX2 = some m.cls := hown
  have hl : lv_has ls 3 [(0, .ref h0), (1, .long v)] := hl
  refine lv_lload_n hx hb dX2_extractW0_0 rfl (lv_at hl 1 rfl) ?_
  refine lv_bipush (v := 32) hx hb dX2_extractW0_1 (by decide) ?_
  refine lv_lshr (v := (v >>> ((32 : Int32).toInt64 &&& 63))) hx hb dX2_extractW0_3 rfl ?_
  refine lv_l2i (v := (v >>> ((32 : Int32).toInt64 &&& 63)).toInt32) hx hb dX2_extractW0_4 rfl ?_
  exact W.iret (v := (v >>> ((32 : Int32).toInt64 &&& 63)).toInt32) hx hb hr (fun t ht hW => ⟨_, rfl, rfl, ht⟩) (fun q h => absurd h List.not_mem_nil) dX2_extractW0_5
set_option maxHeartbeats 4000000 in
set_option maxRecDepth 100000 in
/-- extractW1 the low word -/
theorem mt_extractW1 (l : Launch) (dC : Nat → ClassId) (dI : Nat → Nat → Nat) (cB cI : ClassId) (h0 : Nat) (v : Int64) : Met l yX2_extractW1 (ws_ yX2_extractW1 cX2_extractW1 3 (some .int)) ({ frames := 0, cells := 0, slots := 0, locals := 0 } : Room) (va_Pc [.ref h0, .long v] (sd_pur (dC, dI) cB cI [])) (vp_Si (fun r => r = v.toInt32)) 0 0 (fun _ => False) := by
  refine sd_met (by decide) (Nat.le_of_ble_eq_true rfl) ?_
  intro p e s m below meth c ls hx hb hr hml hts hown hlocks hname hB hl
  obtain ⟨hP, hK, hV⟩ := hB
  have hS : va_S (fun _ => False) s.heap s.heap [] := va_S.rf
  have hown : s.vm.findClass RX2 = some m.cls := hown
  have hl : lv_has ls 3 [(0, .ref h0), (1, .long v)] := hl
  refine lv_lload_n hx hb dX2_extractW1_0 rfl (lv_at hl 1 rfl) ?_
  refine lv_l2i (v := v.toInt32) hx hb dX2_extractW1_1 rfl ?_
  exact W.iret (v := v.toInt32) hx hb hr (fun t ht hW => ⟨_, rfl, rfl, ht⟩) (fun q h => absurd h List.not_mem_nil) dX2_extractW1_2
set_option maxHeartbeats 4000000 in
set_option maxRecDepth 100000 in
/-- rotateLeft8  -/
theorem mt_rotateLeft8 (l : Launch) (dC : Nat → ClassId) (dI : Nat → Nat → Nat) (cB cI : ClassId) (h0 : Nat) (v : Int64) : Met l yX2_rotateLeft8 (ws_ yX2_rotateLeft8 cX2_rotateLeft8 3 (some .long)) ({ frames := 0, cells := 0, slots := 0, locals := 0 } : Room) (va_Pc [.ref h0, .long v] (sd_pur (dC, dI) cB cI [])) (vp_Sl (fun r => r = (v <<< ((8 : Int32).toInt64 &&& 63)) ||| sd_lus v 56)) 0 0 (fun _ => False) := by
  refine sd_met (by decide) (Nat.le_of_ble_eq_true rfl) ?_
  intro p e s m below meth c ls hx hb hr hml hts hown hlocks hname hB hl
  obtain ⟨hP, hK, hV⟩ := hB
  have hS : va_S (fun _ => False) s.heap s.heap [] := va_S.rf
  have hown : s.vm.findClass RX2 = some m.cls := hown
  have hl : lv_has ls 3 [(0, .ref h0), (1, .long v)] := hl
  refine lv_lload_n hx hb dX2_rotateLeft8_0 rfl (lv_at hl 1 rfl) ?_
  refine lv_bipush (v := 8) hx hb dX2_rotateLeft8_1 (by decide) ?_
  refine lv_lshl (v := (v <<< ((8 : Int32).toInt64 &&& 63))) hx hb dX2_rotateLeft8_3 rfl ?_
  refine lv_lload_n hx hb dX2_rotateLeft8_4 rfl (lv_at hl 1 rfl) ?_
  refine lv_bipush (v := 56) hx hb dX2_rotateLeft8_5 (by decide) ?_
  refine lv_lushr (v := (sd_lus v 56)) hx hb dX2_rotateLeft8_7 rfl ?_
  refine lv_lor hx hb dX2_rotateLeft8_8 ?_
  exact W.lret (v := ((v <<< ((8 : Int32).toInt64 &&& 63)) ||| (sd_lus v 56))) hx hb hr (fun t ht hW => ⟨_, rfl, rfl, ht⟩) (fun q h => absurd h List.not_mem_nil) dX2_rotateLeft8_9
set_option maxHeartbeats 4000000 in
set_option maxRecDepth 100000 in
/-- rotateRight8  -/
theorem mt_rotateRight8 (l : Launch) (dC : Nat → ClassId) (dI : Nat → Nat → Nat) (cB cI : ClassId) (h0 : Nat) (v : Int64) : Met l yX2_rotateRight8 (ws_ yX2_rotateRight8 cX2_rotateRight8 3 (some .long)) ({ frames := 0, cells := 0, slots := 0, locals := 0 } : Room) (va_Pc [.ref h0, .long v] (sd_pur (dC, dI) cB cI [])) (vp_Sl (fun r => r = sd_lus v 8 ||| (v <<< ((56 : Int32).toInt64 &&& 63)))) 0 0 (fun _ => False) := by
  refine sd_met (by decide) (Nat.le_of_ble_eq_true rfl) ?_
  intro p e s m below meth c ls hx hb hr hml hts hown hlocks hname hB hl
  obtain ⟨hP, hK, hV⟩ := hB
  have hS : va_S (fun _ => False) s.heap s.heap [] := va_S.rf
  have hown : s.vm.findClass RX2 = some m.cls := hown
  have hl : lv_has ls 3 [(0, .ref h0), (1, .long v)] := hl
  refine lv_lload_n hx hb dX2_rotateRight8_0 rfl (lv_at hl 1 rfl) ?_
  refine lv_bipush (v := 8) hx hb dX2_rotateRight8_1 (by decide) ?_
  refine lv_lushr (v := (sd_lus v 8)) hx hb dX2_rotateRight8_3 rfl ?_
  refine lv_lload_n hx hb dX2_rotateRight8_4 rfl (lv_at hl 1 rfl) ?_
  refine lv_bipush (v := 56) hx hb dX2_rotateRight8_5 (by decide) ?_
  refine lv_lshl (v := (v <<< ((56 : Int32).toInt64 &&& 63))) hx hb dX2_rotateRight8_7 rfl ?_
  refine lv_lor hx hb dX2_rotateRight8_8 ?_
  exact W.lret (v := ((sd_lus v 8) ||| (v <<< ((56 : Int32).toInt64 &&& 63)))) hx hb hr (fun t ht hW => ⟨_, rfl, rfl, ht⟩) (fun q h => absurd h List.not_mem_nil) dX2_rotateRight8_9
set_option maxHeartbeats 4000000 in
set_option maxRecDepth 100000 in
/-- phaseCalc1 -/
theorem mt_phase1 (l : Launch) (dC : Nat → ClassId) (dI : Nat → Nat → Nat) (cB cI : ClassId) (h0 : Nat) (fs : List Value) (r0 k0 r1 k1 : Int32) : Met l yX2_phaseCalc1 (ws_ yX2_phaseCalc1 cX2_phaseCalc1 5 (some .int)) ({ frames := 1, cells := 0, slots := 0, locals := 21 } : Room) (va_Pc [.ref h0, .int r0, .int k0, .int r1, .int k1] (sd_pur (dC, dI) cB cI [(h0, .inr (2, fs))])) (vp_Si (fun r => r = sd_f1 (r0 ^^^ k0) (r1 ^^^ k1))) 0 0 (fun _ => False) := by
  refine sd_met (by decide) (Nat.le_of_ble_eq_true rfl) ?_
  intro p e s m below meth c ls hx hb hr hml hts hown hlocks hname hB hl
  obtain ⟨hP, hK, hV⟩ := hB
  have hS : va_S (fun _ => False) s.heap s.heap [] := va_S.rf
  have hown : s.vm.findClass RX2 = some m.cls := hown
  have hl : lv_has ls 5 [(0, .ref h0), (1, .int r0), (2, .int k0), (3, .int r1), (4, .int k1)] := hl
  refine lv_aload_n hx hb dX2_phaseCalc1_0 rfl (lv_at hl 0 rfl) ?_
  refine lv_aload_n hx hb dX2_phaseCalc1_1 rfl (lv_at hl 0 rfl) ?_
  refine lv_iload_n hx hb dX2_phaseCalc1_2 rfl (lv_at hl 1 rfl) ?_
  refine lv_iload_n hx hb dX2_phaseCalc1_3 rfl (lv_at hl 2 rfl) ?_
  refine lv_ixor hx hb dX2_phaseCalc1_4 ?_
  refine lv_iload_n hx hb dX2_phaseCalc1_5 rfl (lv_at hl 3 rfl) ?_
  refine lv_iload hx hb dX2_phaseCalc1_6 (lv_at hl 4 rfl) ?_
  refine lv_ixor hx hb dX2_phaseCalc1_8 ?_
  refine lv_ixor hx hb dX2_phaseCalc1_9 ?_
  refine vp_callSi (va_runV (As := [.int ((r0 ^^^ k0) ^^^ (r1 ^^^ k1))]) (rest := [.ref h0]) ⟨hx, hb, hml, hown, hts⟩ (mt_G l dC dI cB cI h0 ((r0 ^^^ k0) ^^^ (r1 ^^^ k1))) (cwV 1 hts (lw_V q206 q208 qs6 q18 q209) rfl rfl rfl (by decide +kernel) ⟨Nat.le_of_ble_eq_true rfl, Nat.le_of_ble_eq_true rfl⟩) (sd_purV (va_recv hK hP (ci := 2) (q0 := 0) rfl rfl) hK hV hS (hP.sub [] rfl)) rfl rfl hl.1 rfl (lv_room (Nat.le_of_ble_eq_true rfl)) dX2_phaseCalc1_10 ⟨Nat.le_of_ble_eq_true rfl, Nat.le_of_ble_eq_true rfl⟩).run (fun a1 ha1 => ?_)
  refine lv_iload_n hx hb dX2_phaseCalc1_13 rfl (lv_at hl 1 rfl) ?_
  refine lv_iload_n hx hb dX2_phaseCalc1_14 rfl (lv_at hl 2 rfl) ?_
  refine lv_ixor hx hb dX2_phaseCalc1_15 ?_
  refine lv_iadd hx hb dX2_phaseCalc1_16 ?_
  refine vp_callSi (va_runV (As := [.int (a1 + (r0 ^^^ k0))]) (rest := []) ⟨hx, hb, hml, hown, hts⟩ (mt_G l dC dI cB cI h0 (a1 + (r0 ^^^ k0))) (cwV 1 hts (lw_V q206 q208 qs6 q18 q209) rfl rfl rfl (by decide +kernel) ⟨Nat.le_of_ble_eq_true rfl, Nat.le_of_ble_eq_true rfl⟩) (sd_purV (va_recv hK hP (ci := 2) (q0 := 0) rfl rfl) hK hV hS (hP.sub [] rfl)) rfl rfl hl.1 rfl (lv_room (Nat.le_of_ble_eq_true rfl)) dX2_phaseCalc1_17 ⟨Nat.le_of_ble_eq_true rfl, Nat.le_of_ble_eq_true rfl⟩).run (fun a2 ha2 => ?_)
  exact W.iret (v := a2) hx hb hr (fun t ht hW => ⟨_, rfl, by rw [ha2, ha1]; rfl, ht⟩) (fun q h => absurd h List.not_mem_nil) dX2_phaseCalc1_20
set_option maxHeartbeats 4000000 in
set_option maxRecDepth 100000 in
/-- phaseCalc2 -/
theorem mt_phase2 (l : Launch) (dC : Nat → ClassId) (dI : Nat → Nat → Nat) (cB cI : ClassId) (h0 : Nat) (fs : List Value) (r0 k0 r1 k1 : Int32) : Met l yX2_phaseCalc2 (ws_ yX2_phaseCalc2 cX2_phaseCalc2 5 (some .int)) ({ frames := 2, cells := 0, slots := 0, locals := 45 } : Room) (va_Pc [.ref h0, .int r0, .int k0, .int r1, .int k1] (sd_pur (dC, dI) cB cI [(h0, .inr (2, fs))])) (vp_Si (fun r => r = sd_f2 (r0 ^^^ k0) (r1 ^^^ k1))) 0 0 (fun _ => False) := by
  refine sd_met (by decide) (Nat.le_of_ble_eq_true rfl) ?_
  intro p e s m below meth c ls hx hb hr hml hts hown hlocks hname hB hl
  obtain ⟨hP, hK, hV⟩ := hB
  have hS : va_S (fun _ => False) s.heap s.heap [] := va_S.rf
  have hown : s.vm.findClass RX2 = some m.cls := hown
  have hl : lv_has ls 5 [(0, .ref h0), (1, .int r0), (2, .int k0), (3, .int r1), (4, .int k1)] := hl
  refine lv_aload_n hx hb dX2_phaseCalc2_0 rfl (lv_at hl 0 rfl) ?_
  refine lv_aload_n hx hb dX2_phaseCalc2_1 rfl (lv_at hl 0 rfl) ?_
  refine lv_iload_n hx hb dX2_phaseCalc2_2 rfl (lv_at hl 1 rfl) ?_
  refine lv_iload_n hx hb dX2_phaseCalc2_3 rfl (lv_at hl 2 rfl) ?_
  refine lv_iload_n hx hb dX2_phaseCalc2_4 rfl (lv_at hl 3 rfl) ?_
  refine lv_iload hx hb dX2_phaseCalc2_5 (lv_at hl 4 rfl) ?_
  refine vp_callSi (va_runV (As := [.int r0, .int k0, .int r1, .int k1]) (rest := [.ref h0]) ⟨hx, hb, hml, hown, hts⟩ (mt_phase1 l dC dI cB cI h0 fs r0 k0 r1 k1) (cwV 4 hts (lw_V q297 q299 qs11 q18 q300) rfl rfl rfl (by decide +kernel) ⟨Nat.le_of_ble_eq_true rfl, Nat.le_of_ble_eq_true rfl⟩) (sd_purV (va_recv hK hP (ci := 2) (q0 := 0) rfl rfl) hK hV hS (hP.sub [0] rfl)) rfl rfl hl.1 rfl (lv_room (Nat.le_of_ble_eq_true rfl)) dX2_phaseCalc2_7 ⟨Nat.le_of_ble_eq_true rfl, Nat.le_of_ble_eq_true rfl⟩).run (fun a1 ha1 => ?_)
  refine lv_aload_n hx hb dX2_phaseCalc2_10 rfl (lv_at hl 0 rfl) ?_
  refine lv_iload_n hx hb dX2_phaseCalc2_11 rfl (lv_at hl 1 rfl) ?_
  refine lv_iload_n hx hb dX2_phaseCalc2_12 rfl (lv_at hl 2 rfl) ?_
  refine lv_ixor hx hb dX2_phaseCalc2_13 ?_
  refine lv_iload_n hx hb dX2_phaseCalc2_14 rfl (lv_at hl 3 rfl) ?_
  refine lv_iload hx hb dX2_phaseCalc2_15 (lv_at hl 4 rfl) ?_
  refine lv_ixor hx hb dX2_phaseCalc2_17 ?_
  refine lv_ixor hx hb dX2_phaseCalc2_18 ?_
  refine vp_callSi (va_runV (As := [.int ((r0 ^^^ k0) ^^^ (r1 ^^^ k1))]) (rest := [.int a1, .ref h0]) ⟨hx, hb, hml, hown, hts⟩ (mt_G l dC dI cB cI h0 ((r0 ^^^ k0) ^^^ (r1 ^^^ k1))) (cwV 1 hts (lw_V q206 q208 qs6 q18 q209) rfl rfl rfl (by decide +kernel) ⟨Nat.le_of_ble_eq_true rfl, Nat.le_of_ble_eq_true rfl⟩) (sd_purV (va_recv hK hP (ci := 2) (q0 := 0) rfl rfl) hK hV hS (hP.sub [] rfl)) rfl rfl hl.1 rfl (lv_room (Nat.le_of_ble_eq_true rfl)) dX2_phaseCalc2_19 ⟨Nat.le_of_ble_eq_true rfl, Nat.le_of_ble_eq_true rfl⟩).run (fun a2 ha2 => ?_)
  refine lv_iadd hx hb dX2_phaseCalc2_22 ?_
  refine vp_callSi (va_runV (As := [.int (a1 + a2)]) (rest := []) ⟨hx, hb, hml, hown, hts⟩ (mt_G l dC dI cB cI h0 (a1 + a2)) (cwV 1 hts (lw_V q206 q208 qs6 q18 q209) rfl rfl rfl (by decide +kernel) ⟨Nat.le_of_ble_eq_true rfl, Nat.le_of_ble_eq_true rfl⟩) (sd_purV (va_recv hK hP (ci := 2) (q0 := 0) rfl rfl) hK hV hS (hP.sub [] rfl)) rfl rfl hl.1 rfl (lv_room (Nat.le_of_ble_eq_true rfl)) dX2_phaseCalc2_23 ⟨Nat.le_of_ble_eq_true rfl, Nat.le_of_ble_eq_true rfl⟩).run (fun a3 ha3 => ?_)
  exact W.iret (v := a3) hx hb hr (fun t ht hW => ⟨_, rfl, by rw [ha3, ha2, ha1]; rfl, ht⟩) (fun q h => absurd h List.not_mem_nil) dX2_phaseCalc2_26
set_option maxHeartbeats 4000000 in
set_option maxRecDepth 100000 in
/-- F: a round's two words -/
theorem mt_F (l : Launch) (dC : Nat → ClassId) (dI : Nat → Nat → Nat) (cB cI : ClassId) (h0 : Nat) (fs : List Value) (k0 k1 a b : Int32) : Met l yX2_F (ws_ yX2_F cX2_F 9 (some .long)) ({ frames := 3, cells := 0, slots := 0, locals := 69 } : Room) (va_Pc [.ref h0, .int k0, .int k1, .long (sd_jn a b)] (sd_pur (dC, dI) cB cI [(h0, .inr (2, fs))])) (vp_Sl (fun r => r = sd_jn (sd_f2 (a ^^^ k0) (b ^^^ k1) + sd_f1 (a ^^^ k0) (b ^^^ k1)) (sd_f2 (a ^^^ k0) (b ^^^ k1)))) 0 0 (fun _ => False) := by
  refine sd_met (by decide) (Nat.le_of_ble_eq_true rfl) ?_
  intro p e s m below meth c ls hx hb hr hml hts hown hlocks hname hB hl
  obtain ⟨hP, hK, hV⟩ := hB
  have hS : va_S (fun _ => False) s.heap s.heap [] := va_S.rf
  have hown : s.vm.findClass RX2 = some m.cls := hown
  have hl : lv_has ls 9 [(0, .ref h0), (1, .int k0), (2, .int k1), (3, .long (sd_jn a b))] := hl
  refine lv_lload_n hx hb dX2_F_0 rfl (lv_at hl 3 rfl) ?_
  refine lv_bipush (v := 32) hx hb dX2_F_1 (by decide) ?_
  refine lv_lshr (v := ((sd_jn a b) >>> ((32 : Int32).toInt64 &&& 63))) hx hb dX2_F_3 rfl ?_
  refine lv_l2i (v := ((sd_jn a b) >>> ((32 : Int32).toInt64 &&& 63)).toInt32) hx hb dX2_F_4 rfl ?_
  refine sd_top (y := a) (sd_w0 a b) ?_
  refine lv_istore (lv' := [(5, .int a), (0, .ref h0), (1, .int k0), (2, .int k1), (3, .long (sd_jn a b))]) hx hb dX2_F_5 hl (by decide) rfl (fun ls hl => ?_)
  refine lv_lload_n hx hb dX2_F_7 rfl (lv_at hl 4 rfl) ?_
  refine lv_l2i (v := (sd_jn a b).toInt32) hx hb dX2_F_8 rfl ?_
  refine sd_top (y := b) (sd_w1 a b) ?_
  refine lv_istore (lv' := [(6, .int b), (5, .int a), (0, .ref h0), (1, .int k0), (2, .int k1), (3, .long (sd_jn a b))]) hx hb dX2_F_9 hl (by decide) rfl (fun ls hl => ?_)
  refine lv_aload_n hx hb dX2_F_11 rfl (lv_at hl 2 rfl) ?_
  refine lv_iload hx hb dX2_F_12 (lv_at hl 1 rfl) ?_
  refine lv_iload_n hx hb dX2_F_14 rfl (lv_at hl 3 rfl) ?_
  refine lv_iload hx hb dX2_F_15 (lv_at hl 0 rfl) ?_
  refine lv_iload_n hx hb dX2_F_17 rfl (lv_at hl 4 rfl) ?_
  refine vp_callSi (va_runV (As := [.int a, .int k0, .int b, .int k1]) (rest := []) ⟨hx, hb, hml, hown, hts⟩ (mt_phase2 l dC dI cB cI h0 fs a k0 b k1) (cwV 4 hts (lw_V q293 q295 qs10 q18 q296) rfl rfl rfl (by decide +kernel) ⟨Nat.le_of_ble_eq_true rfl, Nat.le_of_ble_eq_true rfl⟩) (sd_purV (va_recv hK hP (ci := 2) (q0 := 0) rfl rfl) hK hV hS (hP.sub [0] rfl)) rfl rfl hl.1 rfl (lv_room (Nat.le_of_ble_eq_true rfl)) dX2_F_18 ⟨Nat.le_of_ble_eq_true rfl, Nat.le_of_ble_eq_true rfl⟩).run (fun a1 ha1 => ?_)
  refine lv_istore (lv' := [(7, .int a1), (6, .int b), (5, .int a), (0, .ref h0), (1, .int k0), (2, .int k1), (3, .long (sd_jn a b))]) hx hb dX2_F_21 hl (by decide) rfl (fun ls hl => ?_)
  refine lv_iload hx hb dX2_F_23 (lv_at hl 0 rfl) ?_
  refine lv_aload_n hx hb dX2_F_25 rfl (lv_at hl 3 rfl) ?_
  refine lv_iload hx hb dX2_F_26 (lv_at hl 2 rfl) ?_
  refine lv_iload_n hx hb dX2_F_28 rfl (lv_at hl 4 rfl) ?_
  refine lv_iload hx hb dX2_F_29 (lv_at hl 1 rfl) ?_
  refine lv_iload_n hx hb dX2_F_31 rfl (lv_at hl 5 rfl) ?_
  refine vp_callSi (va_runV (As := [.int a, .int k0, .int b, .int k1]) (rest := [.int a1]) ⟨hx, hb, hml, hown, hts⟩ (mt_phase1 l dC dI cB cI h0 fs a k0 b k1) (cwV 4 hts (lw_V q297 q299 qs11 q18 q300) rfl rfl rfl (by decide +kernel) ⟨Nat.le_of_ble_eq_true rfl, Nat.le_of_ble_eq_true rfl⟩) (sd_purV (va_recv hK hP (ci := 2) (q0 := 0) rfl rfl) hK hV hS (hP.sub [0] rfl)) rfl rfl hl.1 rfl (lv_room (Nat.le_of_ble_eq_true rfl)) dX2_F_32 ⟨Nat.le_of_ble_eq_true rfl, Nat.le_of_ble_eq_true rfl⟩).run (fun a2 ha2 => ?_)
  refine lv_iadd hx hb dX2_F_35 ?_
  refine lv_istore (lv' := [(8, .int (a1 + a2)), (7, .int a1), (6, .int b), (5, .int a), (0, .ref h0), (1, .int k0), (2, .int k1), (3, .long (sd_jn a b))]) hx hb dX2_F_36 hl (by decide) rfl (fun ls hl => ?_)
  refine lv_iload hx hb dX2_F_38 (lv_at hl 0 rfl) ?_
  refine lv_i2l (v := (a1 + a2).toInt64) hx hb dX2_F_40 rfl ?_
  refine lv_bipush (v := 32) hx hb dX2_F_41 (by decide) ?_
  refine lv_lshl (v := ((a1 + a2).toInt64 <<< ((32 : Int32).toInt64 &&& 63))) hx hb dX2_F_43 rfl ?_
  refine lv_iload hx hb dX2_F_44 (lv_at hl 1 rfl) ?_
  refine lv_i2l (v := a1.toInt64) hx hb dX2_F_46 rfl ?_
  refine lv_ldc2 hx hb hown (hts _ q301) dX2_F_47 ?_
  refine lv_land hx hb dX2_F_50 ?_
  refine lv_lor hx hb dX2_F_51 ?_
  exact W.lret (v := (((a1 + a2).toInt64 <<< ((32 : Int32).toInt64 &&& 63)) ||| (a1.toInt64 &&& 4294967295))) hx hb hr (fun t ht hW => ⟨_, rfl, by rw [ha2, ha1]; rfl, ht⟩) (fun q h => absurd h List.not_mem_nil) dX2_F_52
section SDL1
variable {p : Program} {l : Launch} {e : Env} {R : Room} {s : State} {m : MethodId} {args : Array Value} {below : List Frame} {meth : Method} {c : Code} {H : Heap} {locs : List Loc} {cells slots : Nat} {Q : State → Prop} {dC : Nat → ClassId} {dI : Nat → Nat → Nat} {cB cI : ClassId} {A : Nat → Prop}
set_option maxHeartbeats 4000000 in
set_option maxRecDepth 100000 in
/-- bytesToLong's loop -/
theorem lp_b2l {f : Nat → Int32} {h0 a o : Nat} (ho : o + 8 ≤ 16) (hx : p.tables.exec = Jvm.exec) (hb : c.code = cX2_bytesToLong) (hK : va_K (dC, dI) sd_cl (sd_ty cB cI) s) (hP : va_P (dC, dI) sd_cl [(a, .inl (cB, 16, .inl f))] H)
    (kk : ∀ ls : Array Slot, lv_has ls 6 [(0, .ref h0), (1, .ref a), (2, .int (nI o)), (3, .long (sd_bw f o 8)), (5, .int (nI 8))] → W p l e R s m args below meth c H locs cells slots Q (F0 m 35 ls [])) : ∀ (n i : Nat) (ls : Array Slot), i + n = 8 → lv_has ls 6 [(0, .ref h0), (1, .ref a), (2, .int (nI o)), (3, .long (sd_bw f o i)), (5, .int (nI i))] → W p l e R s m args below meth c H locs cells slots Q (F0 m 5 ls []) := by
  intro n
  induction n with
  | zero =>
    intro i ls hi hl
    obtain rfl : i = 8 := by omega
    refine lv_iload hx hb dX2_bytesToLong_5 (lv_at hl 4 rfl) ?_
    refine lv_bipush (v := 7) hx hb dX2_bytesToLong_7 (by decide) ?_
    exact lv_icmp_gt (tgt := 35) hx hb dX2_bytesToLong_9 (by decide) (fun _ => kk ls hl) (fun h => absurd (by decide) h)
  | succ n ih =>
    intro i ls hi hl
    refine lv_iload hx hb dX2_bytesToLong_5 (lv_at hl 4 rfl) ?_
    refine lv_bipush (v := 7) hx hb dX2_bytesToLong_7 (by decide) ?_
    refine lv_icmp_gt (tgt := 35) hx hb dX2_bytesToLong_9 (by decide) (fun h => absurd h (sd_7 i (by omega))) (fun _ => ?_)
    refine lv_lload_n hx hb dX2_bytesToLong_12 rfl (lv_at hl 3 rfl) ?_
    refine lv_bipush (v := 8) hx hb dX2_bytesToLong_13 (by decide) ?_
    refine lv_lshl (v := ((sd_bw f o i) <<< ((8 : Int32).toInt64 &&& 63))) hx hb dX2_bytesToLong_15 rfl ?_
    refine lv_aload_n hx hb dX2_bytesToLong_16 rfl (lv_at hl 1 rfl) ?_
    refine lv_iload hx hb dX2_bytesToLong_17 (lv_at hl 4 rfl) ?_
    refine lv_iload_n hx hb dX2_bytesToLong_19 rfl (lv_at hl 2 rfl) ?_
    refine lv_iadd hx hb dX2_bytesToLong_20 ?_
    refine sd_bald hx hb hK hP 0 0 rfl rfl (k := i + o) (nI_add i o) (by omega) (by decide) dX2_bytesToLong_21 ?_
    refine lv_sipush (v := 255) hx hb dX2_bytesToLong_22 (by decide) ?_
    refine lv_iand hx hb dX2_bytesToLong_25 ?_
    refine lv_i2l (v := ((f (i + o)) &&& 255).toInt64) hx hb dX2_bytesToLong_26 rfl ?_
    refine lv_ladd hx hb dX2_bytesToLong_27 ?_
    refine sd_topL (y := (sd_bw f o (i + 1))) (rfl) ?_
    refine lv_lstore_n (lv' := [(3, .long (sd_bw f o (i + 1))), (0, .ref h0), (1, .ref a), (2, .int (nI o)), (5, .int (nI i))]) hx hb dX2_bytesToLong_28 rfl hl (by decide) rfl (fun ls hl => ?_)
    refine lv_iinc (v := (nI (i + 1))) (lv' := [(5, .int (nI (i + 1))), (3, .long (sd_bw f o (i + 1))), (0, .ref h0), (1, .ref a), (2, .int (nI o))]) hx hb dX2_bytesToLong_29 hl (k := 4) rfl (nI_1 i) (by decide) rfl (fun ls hl => ?_)
    refine lv_goto (tgt := 5) hx hb dX2_bytesToLong_32 (by decide) ?_
    exact ih (i + 1) ls (by omega) (lv_sub hl [2, 3, 4, 1, 0] rfl)
end SDL1
set_option maxHeartbeats 4000000 in
set_option maxRecDepth 100000 in
/-- bytesToLong from o on -/
theorem mt_b2l (l : Launch) (dC : Nat → ClassId) (dI : Nat → Nat → Nat) (cB cI : ClassId) (h0 a o : Nat) (ho : o + 8 ≤ 16) (f : Nat → Int32) : Met l yX2_bytesToLong (ws_ yX2_bytesToLong cX2_bytesToLong 6 (some .long)) ({ frames := 0, cells := 0, slots := 0, locals := 0 } : Room) (va_Pc [.ref h0, .ref a, .int (nI o)] (sd_pur (dC, dI) cB cI [(a, .inl (cB, 16, .inl f))])) (vp_Sl (fun r => r = sd_bw f o 8)) 0 0 (fun _ => False) := by
  refine sd_met (by decide) (Nat.le_of_ble_eq_true rfl) ?_
  intro p e s m below meth c ls hx hb hr hml hts hown hlocks hname hB hl
  obtain ⟨hP, hK, hV⟩ := hB
  have hS : va_S (fun _ => False) s.heap s.heap [] := va_S.rf
  have hown : s.vm.findClass RX2 = some m.cls := hown
  have hl : lv_has ls 6 [(0, .ref h0), (1, .ref a), (2, .int (nI o))] := hl
  refine lv_lconst (v := 0) hx hb dX2_bytesToLong_0 (by decide) ?_
  refine lv_lstore_n (lv' := [(3, .long 0), (0, .ref h0), (1, .ref a), (2, .int (nI o))]) hx hb dX2_bytesToLong_1 rfl hl (by decide) rfl (fun ls hl => ?_)
  refine lv_iconst (v := 0) hx hb dX2_bytesToLong_2 (by decide) ?_
  refine lv_istore (lv' := [(5, .int 0), (3, .long 0), (0, .ref h0), (1, .ref a), (2, .int (nI o))]) hx hb dX2_bytesToLong_3 hl (by decide) rfl (fun ls hl => ?_)
  refine lp_b2l ho hx hb hK hP (fun ls hl => ?_) 8 0 ls rfl (lv_sub hl [2, 3, 4, 1, 0] rfl)
  refine lv_lload_n hx hb dX2_bytesToLong_35 rfl (lv_at hl 3 rfl) ?_
  exact W.lret (v := (sd_bw f o 8)) hx hb hr (fun t ht hW => ⟨_, rfl, rfl, ht⟩) (fun q h => absurd h List.not_mem_nil) dX2_bytesToLong_36
end
section
/-! ===== KeyParameter, SEEDEngine: the workers ===== -/
set_option maxHeartbeats 4000000 in
set_option maxRecDepth 100000 in
/-- KeyParameter(16) -/
theorem mt_KP3 (l : Launch) (dC : Nat → ClassId) (dI : Nat → Nat → Nat) (cB cI : ClassId) (h0 : Nat) (sz : Nat) : Met l yX3_init_3 (ws_ yX3_init_3 cX3_init_3 2 none) ({ frames := 1, cells := 1, slots := 16, locals := 12 } : Room) (va_Pc [.ref h0, .int 16] (sd_pre (dC, dI) cB cI [(h0, .inr (3, [.null]))] sz)) (va_Qv (fun _ : Nat => True) (fun u t => va_P (dC, dI) sd_cl [(h0, .inr (3, [.ref u])), (u, .inl (cB, 16, .inl (fun _ => 0)))] t.heap ∧ va_D (va_A [(h0, .inr (3, [.null]))] sz) [(h0, .inr (3, [.ref u])), (u, .inl (cB, 16, .inl (fun _ => 0)))]) (va_A [(h0, .inr (3, [.null]))] sz)) 1 16 (va_A [(h0, .inr (3, [.null]))] sz) := by
  refine sd_metW (Qc := fun A => va_Qv (fun _ : Nat => True) (fun u t => va_P (dC, dI) sd_cl [(h0, .inr (3, [.ref u])), (u, .inl (cB, 16, .inl (fun _ => 0)))] t.heap ∧ va_D A [(h0, .inr (3, [.ref u])), (u, .inl (cB, 16, .inl (fun _ => 0)))]) A) (by decide) (Nat.le_of_ble_eq_true rfl) ?_
  intro p e s m below meth c ls A hx hb hr hml hts hown hlocks hname hP hK hD hV hA hS hl
  have hown : s.vm.findClass RX3 = some m.cls := hown
  have hl : lv_has ls 2 [(0, .ref h0), (1, .int 16)] := hl
  refine lv_aload_n hx hb dX3_init_3_0 rfl (lv_at hl 0 rfl) ?_
  refine W.objInit hx hb hown (hts _ q97) (hts _ q35) (hts _ q36) rfl (by rw [hml]; exact hl.1) rfl dX3_init_3_1 (Nat.le_of_ble_eq_true rfl) (Nat.le_of_ble_eq_true rfl) ?_
  refine W.eq (g2 := F0 m 4 ls []) rfl ?_
  refine lv_aload_n hx hb dX3_init_3_4 rfl (lv_at hl 0 rfl) ?_
  refine lv_iload_n hx hb dX3_init_3_5 rfl (lv_at hl 1 rfl) ?_
  refine sd_newB hx hb hts hK hP hD hS hA 16 (by decide) (by decide) (by decide) (Nat.le_of_ble_eq_true rfl) (Nat.le_of_ble_eq_true rfl) dX3_init_3_6 (fun q H hP hD hS => ?_)
  have hP : va_P (dC, dI) sd_cl [(h0, .inr (3, [.null])), (q, .inl (cB, 16, .inl (fun _ => 0)))] H := hP
  have hD : va_D A [(h0, .inr (3, [.null])), (q, .inl (cB, 16, .inl (fun _ => 0)))] := hD
  refine va_put (D := (dC, dI)) (ci := 3) (v := .ref q) (ty := .array .byte) (C := RX3) (T := TX3) (N := 1) hx hb hts in_X3 tyX3 tyX3_ok nmX3 hown hK hP hD hS 0 rfl rfl 0 (by decide) (hts _ q98) (fun _ h9 => h9) rfl (by decide +kernel) rfl rfl (Nat.le_of_ble_eq_true rfl) dX3_init_3_8 (fun H locs hP hD hS => ?_)
  have hP : va_P (dC, dI) sd_cl [(h0, .inr (3, [.ref q])), (q, .inl (cB, 16, .inl (fun _ => 0)))] H := hP
  have hD : va_D A [(h0, .inr (3, [.ref q])), (q, .inl (cB, 16, .inl (fun _ => 0)))] := hD
  refine W.widen (k := 1) (n := 16) (by first | omega | (dsimp only; omega)) (by first | omega | (dsimp only; omega)) ?_
  exact W.vret hx hb hr (fun t ht hW => ⟨⟨q, rfl, trivial, by rw [ht]; exact hP, hD⟩, hS.F ht⟩) hS.2.2 dX3_init_3_11
set_option maxHeartbeats 4000000 in
set_option maxRecDepth 100000 in
/-- KeyParameter(k, 0, 16) -/
theorem mt_KP2 (l : Launch) (dC : Nat → ClassId) (dI : Nat → Nat → Nat) (cB cI : ClassId) (h0 a : Nat) (f : Nat → Int32) (hf : ∀ i, i < 16 → fits .byte (.int (f i)) = true) (sz : Nat) : Met l yX3_init_2 (ws_ yX3_init_2 cX3_init_2 4 none) ({ frames := 2, cells := 1, slots := 16, locals := 33 } : Room) (va_Pc [.ref h0, .ref a, .int 0, .int 16] (sd_pre (dC, dI) cB cI [(h0, .inr (3, [.null])), (a, .inl (cB, 16, .inl f))] sz)) (va_Qv (fun u : Nat × (Nat → Int32) => ∀ j, j < 16 → u.2 j = f j) (fun u t => va_P (dC, dI) sd_cl [(h0, .inr (3, [.ref u.1])), (a, .inl (cB, 16, .inl f)), (u.1, .inl (cB, 16, .inl u.2))] t.heap ∧ va_D (va_A [(h0, .inr (3, [.null])), (a, .inl (cB, 16, .inl f))] sz) [(h0, .inr (3, [.ref u.1])), (a, .inl (cB, 16, .inl f)), (u.1, .inl (cB, 16, .inl u.2))]) (va_A [(h0, .inr (3, [.null])), (a, .inl (cB, 16, .inl f))] sz)) 1 16 (va_A [(h0, .inr (3, [.null])), (a, .inl (cB, 16, .inl f))] sz) := by
  refine sd_metW (Qc := fun A => va_Qv (fun u : Nat × (Nat → Int32) => ∀ j, j < 16 → u.2 j = f j) (fun u t => va_P (dC, dI) sd_cl [(h0, .inr (3, [.ref u.1])), (a, .inl (cB, 16, .inl f)), (u.1, .inl (cB, 16, .inl u.2))] t.heap ∧ va_D A [(h0, .inr (3, [.ref u.1])), (a, .inl (cB, 16, .inl f)), (u.1, .inl (cB, 16, .inl u.2))]) A) (by decide) (Nat.le_of_ble_eq_true rfl) ?_
  intro p e s m below meth c ls A hx hb hr hml hts hown hlocks hname hP hK hD hV hA hS hl
  have hown : s.vm.findClass RX3 = some m.cls := hown
  have hl : lv_has ls 4 [(0, .ref h0), (1, .ref a), (2, .int 0), (3, .int 16)] := hl
  refine lv_aload_n hx hb dX3_init_2_0 rfl (lv_at hl 0 rfl) ?_
  refine lv_iload_n hx hb dX3_init_2_1 rfl (lv_at hl 3 rfl) ?_
  have hPc := hP.sub (ws' := [(h0, .inr (3, [.null]))]) [0] rfl
  have hDc := hD.sub (ws' := [(h0, .inr (3, [.null]))]) [0] (by decide) rfl
  have hFc := va_free (wc := [(h0, .inr (3, [.null]))]) hD hS hA [0] rfl
  refine va_callv (va_runI (As := [.int 16]) (rest := []) ⟨hx, hb, hml, hown, hts⟩ (mt_KP3 l dC dI cB cI h0 s.heap.size) (cwI 1 hts (lw_meth q96) rfl rfl rfl (hts _ q19) (hts _ q94) (hts _ q95) rfl (by decide +kernel) ⟨Nat.le_of_ble_eq_true rfl, Nat.le_of_ble_eq_true rfl⟩) (sd_preS hK hV hS hPc hDc hFc) rfl rfl hl.1 rfl (lv_room (Nat.le_of_ble_eq_true rfl)) dX3_init_2_2 ⟨Nat.le_of_ble_eq_true rfl, Nat.le_of_ble_eq_true rfl⟩) hS (fun q _ h => hFc q h) hFc (fun q t H locs ht hvm _ hB hz1 hk1 hS => ?_)
  obtain ⟨hP1, hD1⟩ := hB
  rw [ht] at hP1
  obtain ⟨hP, hD⟩ := va_join (wr := [(a, .inl (cB, 16, .inl f))]) (w1 := [(h0, .inr (3, [.ref q])), (q, .inl (cB, 16, .inl (fun _ => 0)))]) hP hD [0] [1] rfl rfl (by decide) (by decide) hk1 hFc hP1 hD1
  have hP : va_P (dC, dI) sd_cl [(a, .inl (cB, 16, .inl f)), (h0, .inr (3, [.ref q])), (q, .inl (cB, 16, .inl (fun _ => 0)))] H := hP
  have hD : va_D A [(a, .inl (cB, 16, .inl f)), (h0, .inr (3, [.ref q])), (q, .inl (cB, 16, .inl (fun _ => 0)))] := hD
  refine lv_aload_n hx hb dX3_init_2_5 rfl (lv_at hl 1 rfl) ?_
  refine lv_iload_n hx hb dX3_init_2_6 rfl (lv_at hl 2 rfl) ?_
  refine lv_aload_n hx hb dX3_init_2_7 rfl (lv_at hl 0 rfl) ?_
  refine va_get (D := (dC, dI)) (ci := 3) (v := .ref q) (C := RX3) (T := TX3) (N := 1) hx hb hts in_X3 hown hK hP 1 rfl rfl 0 (by decide) (hts _ q98) (fun _ h9 => h9) rfl dX3_init_2_8 ?_
  refine lv_iconst (v := 0) hx hb dX3_init_2_11 (by decide) ?_
  refine lv_iload_n hx hb dX3_init_2_12 rfl (lv_at hl 3 rfl) ?_
  refine va_copyi hx hb (hml.trans hl.1.symm) hown (hts _ q102) (hts _ q104) (hts _ q103) (hts _ q20) hK hP hD hS 0 2 0 0 rfl rfl rfl rfl rfl (by decide) (by decide) (by decide) (by decide) (by decide) (fun i hi => by rw [show (0 : Int32).toNatClampNeg + i = i from Nat.zero_add i]; exact hf i hi) (Nat.le_of_ble_eq_true rfl) (Nat.le_of_ble_eq_true rfl) dX3_init_2_13 (fun H locs hP hD hS => ?_)
  have hP : va_P (dC, dI) sd_cl [(a, .inl (cB, 16, .inl f)), (h0, .inr (3, [.ref q])), (q, .inl (cB, 16, .inl (va_cpy f (fun _ => 0) 0 0 16)))] H := hP
  have hD : va_D A [(a, .inl (cB, 16, .inl f)), (h0, .inr (3, [.ref q])), (q, .inl (cB, 16, .inl (va_cpy f (fun _ => 0) 0 0 16)))] := hD
  have hP := hP.sub (ws' := [(h0, .inr (3, [.ref q])), (a, .inl (cB, 16, .inl f)), (q, .inl (cB, 16, .inl (va_cpy f (fun _ => 0) 0 0 16)))]) [1, 0, 2] rfl
  have hD := hD.sub (ws' := [(h0, .inr (3, [.ref q])), (a, .inl (cB, 16, .inl f)), (q, .inl (cB, 16, .inl (va_cpy f (fun _ => 0) 0 0 16)))]) [1, 0, 2] (by decide) rfl
  refine W.widen (k := 1) (n := 16) (by first | omega | (dsimp only; omega)) (by first | omega | (dsimp only; omega)) ?_
  exact W.vret hx hb hr (fun t ht hW => ⟨⟨(q, va_cpy f (fun _ => 0) 0 0 16), rfl, fun j hj => (sb_cpy0 (f := f) (g := fun _ => 0) hj : va_cpy f (fun _ => 0) 0 0 16 j = f j), by rw [ht]; exact hP, hD⟩, hS.F ht⟩) hS.2.2 dX3_init_2_16
set_option maxHeartbeats 4000000 in
set_option maxRecDepth 100000 in
/-- KeyParameter(k) -/
theorem mt_KP1 (l : Launch) (dC : Nat → ClassId) (dI : Nat → Nat → Nat) (cB cI : ClassId) (h0 a : Nat) (f : Nat → Int32) (hf : ∀ i, i < 16 → fits .byte (.int (f i)) = true) (sz : Nat) : Met l yX3_init (ws_ yX3_init cX3_init 2 none) ({ frames := 3, cells := 1, slots := 16, locals := 56 } : Room) (va_Pc [.ref h0, .ref a] (sd_pre (dC, dI) cB cI [(h0, .inr (3, [.null])), (a, .inl (cB, 16, .inl f))] sz)) (va_Qv (fun u : Nat × (Nat → Int32) => ∀ j, j < 16 → u.2 j = f j) (fun u t => va_P (dC, dI) sd_cl [(h0, .inr (3, [.ref u.1])), (a, .inl (cB, 16, .inl f)), (u.1, .inl (cB, 16, .inl u.2))] t.heap ∧ va_D (va_A [(h0, .inr (3, [.null])), (a, .inl (cB, 16, .inl f))] sz) [(h0, .inr (3, [.ref u.1])), (a, .inl (cB, 16, .inl f)), (u.1, .inl (cB, 16, .inl u.2))]) (va_A [(h0, .inr (3, [.null])), (a, .inl (cB, 16, .inl f))] sz)) 1 16 (va_A [(h0, .inr (3, [.null])), (a, .inl (cB, 16, .inl f))] sz) := by
  refine sd_metW (Qc := fun A => va_Qv (fun u : Nat × (Nat → Int32) => ∀ j, j < 16 → u.2 j = f j) (fun u t => va_P (dC, dI) sd_cl [(h0, .inr (3, [.ref u.1])), (a, .inl (cB, 16, .inl f)), (u.1, .inl (cB, 16, .inl u.2))] t.heap ∧ va_D A [(h0, .inr (3, [.ref u.1])), (a, .inl (cB, 16, .inl f)), (u.1, .inl (cB, 16, .inl u.2))]) A) (by decide) (Nat.le_of_ble_eq_true rfl) ?_
  intro p e s m below meth c ls A hx hb hr hml hts hown hlocks hname hP hK hD hV hA hS hl
  have hown : s.vm.findClass RX3 = some m.cls := hown
  have hl : lv_has ls 2 [(0, .ref h0), (1, .ref a)] := hl
  refine lv_aload_n hx hb dX3_init_0 rfl (lv_at hl 0 rfl) ?_
  refine lv_aload_n hx hb dX3_init_1 rfl (lv_at hl 1 rfl) ?_
  refine lv_iconst (v := 0) hx hb dX3_init_2 (by decide) ?_
  refine lv_aload_n hx hb dX3_init_3 rfl (lv_at hl 1 rfl) ?_
  refine va_alen (v := 16) hx hb hK hP 1 0 rfl rfl rfl dX3_init_4 ?_
  have hPc := hP.sub (ws' := [(h0, .inr (3, [.null])), (a, .inl (cB, 16, .inl f))]) [0, 1] rfl
  have hDc := hD.sub (ws' := [(h0, .inr (3, [.null])), (a, .inl (cB, 16, .inl f))]) [0, 1] (by decide) rfl
  have hFc := va_free (wc := [(h0, .inr (3, [.null])), (a, .inl (cB, 16, .inl f))]) hD hS hA [0, 1] rfl
  refine va_callv (va_runI (As := [.ref a, .int 0, .int 16]) (rest := []) ⟨hx, hb, hml, hown, hts⟩ (mt_KP2 l dC dI cB cI h0 a f hf s.heap.size) (cwI 3 hts (lw_meth q93) rfl rfl rfl (hts _ q19) (hts _ q91) (hts _ q92) rfl (by decide +kernel) ⟨Nat.le_of_ble_eq_true rfl, Nat.le_of_ble_eq_true rfl⟩) (sd_preS hK hV hS hPc hDc hFc) rfl rfl hl.1 rfl (lv_room (Nat.le_of_ble_eq_true rfl)) dX3_init_5 ⟨Nat.le_of_ble_eq_true rfl, Nat.le_of_ble_eq_true rfl⟩) hS (fun q _ h => hFc q h) hFc (fun u t H locs ht hvm hw hB hz1 hk1 hS => ?_)
  obtain ⟨hP1, hD1⟩ := hB
  rw [ht] at hP1
  obtain ⟨hP, hD⟩ := va_join (wr := []) (w1 := [(h0, .inr (3, [.ref u.1])), (a, .inl (cB, 16, .inl f)), (u.1, .inl (cB, 16, .inl u.2))]) hP hD [0, 1] [] rfl rfl (by decide) (by decide) hk1 hFc hP1 hD1
  have hP : va_P (dC, dI) sd_cl [(h0, .inr (3, [.ref u.1])), (a, .inl (cB, 16, .inl f)), (u.1, .inl (cB, 16, .inl u.2))] H := hP
  have hD : va_D A [(h0, .inr (3, [.ref u.1])), (a, .inl (cB, 16, .inl f)), (u.1, .inl (cB, 16, .inl u.2))] := hD
  refine W.widen (k := 1) (n := 16) (by first | omega | (dsimp only; omega)) (by first | omega | (dsimp only; omega)) ?_
  exact W.vret hx hb hr (fun t ht hW => ⟨⟨u, rfl, hw, by rw [ht]; exact hP, hD⟩, hS.F ht⟩) hS.2.2 dX3_init_8
set_option maxHeartbeats 4000000 in
set_option maxRecDepth 100000 in
/-- getKey -/
theorem mt_getKey (l : Launch) (dC : Nat → ClassId) (dI : Nat → Nat → Nat) (cB cI : ClassId) (h0 a : Nat) : Met l yX3_getKey (ws_ yX3_getKey cX3_getKey 1 (some (.array .byte))) ({ frames := 0, cells := 0, slots := 0, locals := 0 } : Room) (va_Pc [.ref h0] (sd_pur (dC, dI) cB cI [(h0, .inr (3, [.ref a]))])) (va_Sr (fun k => k = a) (fun k => .ref k)) 0 0 (fun _ => False) := by
  refine sd_met (by decide) (Nat.le_of_ble_eq_true rfl) ?_
  intro p e s m below meth c ls hx hb hr hml hts hown hlocks hname hB hl
  obtain ⟨hP, hK, hV⟩ := hB
  have hown : s.vm.findClass RX3 = some m.cls := hown
  have hl : lv_has ls 1 [(0, .ref h0)] := hl
  refine lv_aload_n hx hb dX3_getKey_0 rfl (lv_at hl 0 rfl) ?_
  refine va_get (D := (dC, dI)) (ci := 3) (v := .ref a) (C := RX3) (T := TX3) (N := 1) hx hb hts in_X3 hown hK hP 0 rfl rfl 0 (by decide) (hts _ q98) (fun _ h9 => h9) rfl dX3_getKey_1 ?_
  exact W.aret (v := .ref a) hx hb hr (Or.inr ⟨_, rfl⟩) (Or.inr ⟨_, rfl⟩) (fun t ht hW => ⟨a, rfl, rfl, ht⟩) (fun q h => absurd h List.not_mem_nil) dX3_getKey_4
set_option maxHeartbeats 4000000 in
set_option maxRecDepth 100000 in
/-- SEEDEngine() -/
theorem mt_SE (l : Launch) (dC : Nat → ClassId) (dI : Nat → Nat → Nat) (cB cI : ClassId) (h0 : Nat) (sz : Nat) : Met l yX2_init (ws_ yX2_init cX2_init 1 none) ({ frames := 1, cells := 0, slots := 0, locals := 12 } : Room) (va_Pc [.ref h0] (sd_pre (dC, dI) cB cI [(h0, .inr (2, [.int 0, .null, .int 0]))] sz)) (va_Qv (fun _ : Unit => True) (fun _ t => va_P (dC, dI) sd_cl [(h0, .inr (2, [.int 16, .null, .int 0]))] t.heap ∧ va_D (va_A [(h0, .inr (2, [.int 0, .null, .int 0]))] sz) [(h0, .inr (2, [.int 16, .null, .int 0]))]) (va_A [(h0, .inr (2, [.int 0, .null, .int 0]))] sz)) 0 0 (va_A [(h0, .inr (2, [.int 0, .null, .int 0]))] sz) := by
  refine sd_metW (Qc := fun A => va_Qv (fun _ : Unit => True) (fun _ t => va_P (dC, dI) sd_cl [(h0, .inr (2, [.int 16, .null, .int 0]))] t.heap ∧ va_D A [(h0, .inr (2, [.int 16, .null, .int 0]))]) A) (by decide) (Nat.le_of_ble_eq_true rfl) ?_
  intro p e s m below meth c ls A hx hb hr hml hts hown hlocks hname hP hK hD hV hA hS hl
  have hown : s.vm.findClass RX2 = some m.cls := hown
  have hl : lv_has ls 1 [(0, .ref h0)] := hl
  have hin : meth.name = "<init>" := hname
  refine lv_aload_n hx hb dX2_init_0 rfl (lv_at hl 0 rfl) ?_
  refine W.objInit hx hb hown (hts _ q75) (hts _ q35) (hts _ q36) rfl (by rw [hml]; exact hl.1) rfl dX2_init_1 (Nat.le_of_ble_eq_true rfl) (Nat.le_of_ble_eq_true rfl) ?_
  refine W.eq (g2 := F0 m 4 ls []) rfl ?_
  refine lv_aload_n hx hb dX2_init_4 rfl (lv_at hl 0 rfl) ?_
  refine lv_bipush (v := 16) hx hb dX2_init_5 (by decide) ?_
  refine va_putF (D := (dC, dI)) (ci := 2) (v := .int 16) (ty := .int) (C := RX2) (T := TX2) (N := 3) hx hb hts in_X2 tyX2 tyX2_ok nmX2 hown hK hP hD hS 0 rfl rfl 0 (by decide) (hts _ q76) (fun _ h9 => h9) rfl hin rfl (by decide +kernel) rfl rfl (Nat.le_of_ble_eq_true rfl) dX2_init_7 (fun H locs hP hD hS => ?_)
  have hP : va_P (dC, dI) sd_cl [(h0, .inr (2, [.int 16, .null, .int 0]))] H := hP
  have hD : va_D A [(h0, .inr (2, [.int 16, .null, .int 0]))] := hD
  exact W.vret hx hb hr (fun t ht hW => ⟨⟨(), rfl, trivial, by rw [ht]; exact hP, hD⟩, hS.F ht⟩) hS.2.2 dX2_init_10
section SDL2
variable {p : Program} {l : Launch} {e : Env} {R : Room} {s : State} {m : MethodId} {args : Array Value} {below : List Frame} {meth : Method} {c : Code} {H : Heap} {locs : List Loc} {cells slots : Nat} {Q : State → Prop} {dC : Nat → ClassId} {dI : Nat → Nat → Nat} {cB cI : ClassId} {A : Nat → Prop}
set_option maxHeartbeats 4000000 in
set_option maxRecDepth 100000 in
/-- longToBytes' loop -/
theorem lp_l2b {f : Nat → Int32} {v : Int64} {h0 a o : Nat} (ho : o + 8 ≤ 16) (hx : p.tables.exec = Jvm.exec) (hb : c.code = cX2_longToBytes) (hK : va_K (dC, dI) sd_cl (sd_ty cB cI) s)
    (kk : ∀ (u : Nat → Int32) (H : Heap) (locs : List Loc) (ls : Array Slot), (∀ j, u j = if o ≤ j ∧ j < o + 8 then sd_lbr v (j - o) else f j) → va_P (dC, dI) sd_cl [(a, .inl (cB, 16, .inl u))] H → va_D A [(a, .inl (cB, 16, .inl u))] → va_S A s.heap H locs → lv_has ls 6 [(0, .ref h0), (1, .ref a), (2, .int (nI o)), (3, .long v), (5, .int (nI 8))] → W p l e R s m args below meth c H locs cells slots Q (F0 m 34 ls [])) :
    ∀ (n i : Nat) (u : Nat → Int32) (H : Heap) (locs : List Loc) (ls : Array Slot), i + n = 8 → (∀ j, u j = if o ≤ j ∧ j < o + i then sd_lbr v (j - o) else f j) → va_P (dC, dI) sd_cl [(a, .inl (cB, 16, .inl u))] H → va_D A [(a, .inl (cB, 16, .inl u))] → va_S A s.heap H locs → lv_has ls 6 [(0, .ref h0), (1, .ref a), (2, .int (nI o)), (3, .long v), (5, .int (nI i))] → W p l e R s m args below meth c H locs cells slots Q (F0 m 3 ls []) := by
  intro n
  induction n with
  | zero =>
    intro i u H locs ls hi hu hP hD hS hl
    obtain rfl : i = 8 := by omega
    refine lv_iload hx hb dX2_longToBytes_3 (lv_at hl 4 rfl) ?_
    refine lv_bipush (v := 8) hx hb dX2_longToBytes_5 (by decide) ?_
    exact lv_icmp_ge (tgt := 34) hx hb dX2_longToBytes_7 (by decide) (fun _ => kk u H locs ls hu hP hD hS hl) (fun h => absurd (by decide) h)
  | succ n ih =>
    intro i u H locs ls hi hu hP hD hS hl
    refine lv_iload hx hb dX2_longToBytes_3 (lv_at hl 4 rfl) ?_
    refine lv_bipush (v := 8) hx hb dX2_longToBytes_5 (by decide) ?_
    refine lv_icmp_ge (tgt := 34) hx hb dX2_longToBytes_7 (by decide) (fun h => absurd h (sd_g8 i (by omega))) (fun _ => ?_)
    refine lv_aload_n hx hb dX2_longToBytes_10 rfl (lv_at hl 1 rfl) ?_
    refine lv_iload hx hb dX2_longToBytes_11 (lv_at hl 4 rfl) ?_
    refine lv_iload_n hx hb dX2_longToBytes_13 rfl (lv_at hl 2 rfl) ?_
    refine lv_iadd hx hb dX2_longToBytes_14 ?_
    refine lv_lload_n hx hb dX2_longToBytes_15 rfl (lv_at hl 3 rfl) ?_
    refine lv_bipush (v := 7) hx hb dX2_longToBytes_16 (by decide) ?_
    refine lv_iload hx hb dX2_longToBytes_18 (lv_at hl 4 rfl) ?_
    refine lv_isub hx hb dX2_longToBytes_20 ?_
    refine lv_bipush (v := 8) hx hb dX2_longToBytes_21 (by decide) ?_
    refine lv_imul hx hb dX2_longToBytes_23 ?_
    refine lv_lshr (v := (v >>> ((((7 - (nI i)) * 8) : Int32).toInt64 &&& 63))) hx hb dX2_longToBytes_24 rfl ?_
    refine lv_l2i (v := (v >>> ((((7 - (nI i)) * 8) : Int32).toInt64 &&& 63)).toInt32) hx hb dX2_longToBytes_25 rfl ?_
    refine lv_i2b (v := (v >>> ((((7 - (nI i)) * 8) : Int32).toInt64 &&& 63)).toInt32.toInt8.toInt32) hx hb dX2_longToBytes_26 rfl ?_
    refine sd_top (y := (sd_lbr v i)) (rfl) ?_
    refine sd_bast (y := (sd_lbr v i)) hx hb hK hP hD hS 0 0 rfl rfl (k := i + o) (nI_add i o) (by omega) (by decide) (pk_vb _) dX2_longToBytes_27 (fun H locs hP hD hS => ?_)
    have hP : va_P (dC, dI) sd_cl [(a, .inl (cB, 16, .inl (upd u (i + o) (sd_lbr v i))))] H := hP
    have hD : va_D A [(a, .inl (cB, 16, .inl (upd u (i + o) (sd_lbr v i))))] := hD
    refine lv_iinc (v := (nI (i + 1))) (lv' := [(5, .int (nI (i + 1))), (0, .ref h0), (1, .ref a), (2, .int (nI o)), (3, .long v)]) hx hb dX2_longToBytes_28 hl (k := 4) rfl (nI_1 i) (by decide) rfl (fun ls hl => ?_)
    refine lv_goto (tgt := 3) hx hb dX2_longToBytes_31 (by decide) ?_
    exact ih (i + 1) _ H locs ls (by omega) (sd_stp hu (by omega)) hP hD hS (lv_sub hl [1, 2, 3, 4, 0] rfl)
end SDL2
set_option maxHeartbeats 4000000 in
set_option maxRecDepth 100000 in
/-- longToBytes -/
theorem mt_l2b (l : Launch) (dC : Nat → ClassId) (dI : Nat → Nat → Nat) (cB cI : ClassId) (h0 a o : Nat) (ho : o + 8 ≤ 16) (f : Nat → Int32) (v : Int64) (sz : Nat) : Met l yX2_longToBytes (ws_ yX2_longToBytes cX2_longToBytes 6 none) ({ frames := 0, cells := 0, slots := 0, locals := 0 } : Room) (va_Pc [.ref h0, .ref a, .int (nI o), .long v] (sd_pre (dC, dI) cB cI [(a, .inl (cB, 16, .inl f))] sz)) (va_Qv (fun u : Nat → Int32 => (∀ j, u j = if o ≤ j ∧ j < o + 8 then sd_lbr v (j - o) else f j)) (fun u t => va_P (dC, dI) sd_cl [(a, .inl (cB, 16, .inl u))] t.heap ∧ va_D (va_A [(a, .inl (cB, 16, .inl f))] sz) [(a, .inl (cB, 16, .inl u))]) (va_A [(a, .inl (cB, 16, .inl f))] sz)) 0 0 (va_A [(a, .inl (cB, 16, .inl f))] sz) := by
  refine sd_metW (Qc := fun A => va_Qv (fun u : Nat → Int32 => (∀ j, u j = if o ≤ j ∧ j < o + 8 then sd_lbr v (j - o) else f j)) (fun u t => va_P (dC, dI) sd_cl [(a, .inl (cB, 16, .inl u))] t.heap ∧ va_D A [(a, .inl (cB, 16, .inl u))]) A) (by decide) (Nat.le_of_ble_eq_true rfl) ?_
  intro p e s m below meth c ls A hx hb hr hml hts hown hlocks hname hP hK hD hV hA hS hl
  have hown : s.vm.findClass RX2 = some m.cls := hown
  have hl : lv_has ls 6 [(0, .ref h0), (1, .ref a), (2, .int (nI o)), (3, .long v)] := hl
  refine lv_iconst (v := 0) hx hb dX2_longToBytes_0 (by decide) ?_
  refine lv_istore (lv' := [(5, .int 0), (0, .ref h0), (1, .ref a), (2, .int (nI o)), (3, .long v)]) hx hb dX2_longToBytes_1 hl (by decide) rfl (fun ls hl => ?_)
  refine lp_l2b ho hx hb hK (fun u H locs ls hu hP hD hS hl => ?_) 8 0 f _ _ ls rfl sd_stp0 hP hD hS (lv_sub hl [1, 2, 3, 4, 0] rfl)
  exact W.vret hx hb hr (fun t ht hW => ⟨⟨u, rfl, hu, by rw [ht]; exact hP, hD⟩, hS.F ht⟩) hS.2.2 dX2_longToBytes_34
end
section
/-! ===== SEEDEngine: the keys of the rounds, a block ===== -/
section SDL3
variable {p : Program} {l : Launch} {e : Env} {R : Room} {s : State} {m : MethodId} {args : Array Value} {below : List Frame} {meth : Method} {c : Code} {H : Heap} {locs : List Loc} {cells slots : Nat} {Q : State → Prop} {dC : Nat → ClassId} {dI : Nat → Nat → Nat} {cB cI : ClassId} {A : Nat → Prop}
set_option maxHeartbeats 4000000 in
set_option maxRecDepth 100000 in
/-- createWorkingKey's loop -/
theorem lp_cwk {f : Nat → Int32} {fs : List Value} {a0 b0 c0 d0 : Int32} {h0 a k : Nat} (hx : p.tables.exec = Jvm.exec) (hb : c.code = cX2_createWorkingKey) (hml : c.maxLocals = 12) (hown : s.vm.findClass RX2 = some m.cls) (hts : ∀ w ∈ lw_all, w.before args s = true) (hK : va_K (dC, dI) sd_cl (sd_ty cB cI) s) (hV : sd_V A s)
    (kk : ∀ (u : Nat → Int32) (H : Heap) (locs : List Loc) (ls : Array Slot) (a1 b1 c1 d1 : Int32), (∀ j, j < 32 → u j = sd_rk a0 b0 c0 d0 j) → va_P (dC, dI) sd_cl [(h0, .inr (2, fs)), (a, .inl (cB, 16, .inl f)), (k, .inl (cI, 32, .inl u))] H → va_D A [(h0, .inr (2, fs)), (a, .inl (cB, 16, .inl f)), (k, .inl (cI, 32, .inl u))] → va_S A s.heap H locs → lv_has ls 12 [(0, .ref h0), (1, .ref a), (2, .ref k), (3, .long (sd_jn a1 b1)), (5, .long (sd_jn c1 d1)), (7, .int a1), (8, .int b1), (9, .int c1), (10, .int d1), (11, .int (nI 16))] → W p l e ({ frames := 1, cells := 1, slots := 32, locals := 25 } : Room) s m args below meth c H locs 1 32 Q (F0 m 184 ls [])) :
    ∀ (n i : Nat) (u : Nat → Int32) (H : Heap) (locs : List Loc) (ls : Array Slot) (a1 b1 c1 d1 : Int32), i + n = 16 → sd_ks a0 b0 c0 d0 i = (a1, b1, c1, d1) → (∀ j, j < 2 * i → u j = sd_rk a0 b0 c0 d0 j) → va_P (dC, dI) sd_cl [(h0, .inr (2, fs)), (a, .inl (cB, 16, .inl f)), (k, .inl (cI, 32, .inl u))] H → va_D A [(h0, .inr (2, fs)), (a, .inl (cB, 16, .inl f)), (k, .inl (cI, 32, .inl u))] → va_S A s.heap H locs → lv_has ls 12 [(0, .ref h0), (1, .ref a), (2, .ref k), (3, .long (sd_jn a1 b1)), (5, .long (sd_jn c1 d1)), (7, .int a1), (8, .int b1), (9, .int c1), (10, .int d1), (11, .int (nI i))] → W p l e ({ frames := 1, cells := 1, slots := 32, locals := 25 } : Room) s m args below meth c H locs 1 32 Q (F0 m 71 ls []) := by
  intro n
  induction n with
  | zero =>
    intro i u H locs ls a1 b1 c1 d1 hi hq hu hP hD hS hl
    obtain rfl : i = 16 := by omega
    refine lv_iload hx hb dX2_createWorkingKey_71 (lv_at hl 9 rfl) ?_
    refine lv_bipush (v := 16) hx hb dX2_createWorkingKey_73 (by decide) ?_
    exact lv_icmp_ge (tgt := 184) hx hb dX2_createWorkingKey_75 (by decide) (fun _ => kk u H locs ls a1 b1 c1 d1 hu hP hD hS hl) (fun h => absurd (by decide) h)
  | succ n ih =>
    intro i u H locs ls a1 b1 c1 d1 hi hq hu hP hD hS hl
    refine lv_iload hx hb dX2_createWorkingKey_71 (lv_at hl 9 rfl) ?_
    refine lv_bipush (v := 16) hx hb dX2_createWorkingKey_73 (by decide) ?_
    obtain ⟨-, ⟨tK, hZK, hTK⟩, -⟩ := id hV
    refine lv_icmp_ge (tgt := 184) hx hb dX2_createWorkingKey_75 (by decide) (fun h => absurd h (sd_g16 i (by omega))) (fun _ => ?_)
    refine lv_aload_n hx hb dX2_createWorkingKey_78 rfl (lv_at hl 2 rfl) ?_
    refine lv_iconst (v := 2) hx hb dX2_createWorkingKey_79 (by decide) ?_
    refine lv_iload hx hb dX2_createWorkingKey_80 (lv_at hl 9 rfl) ?_
    refine lv_imul hx hb dX2_createWorkingKey_82 ?_
    refine lv_aload_n hx hb dX2_createWorkingKey_83 rfl (lv_at hl 0 rfl) ?_
    refine lv_iload hx hb dX2_createWorkingKey_84 (lv_at hl 5 rfl) ?_
    refine lv_iload hx hb dX2_createWorkingKey_86 (lv_at hl 7 rfl) ?_
    refine lv_iadd hx hb dX2_createWorkingKey_88 ?_
    refine va_gets hx hb hZK hS hown (hts _ q204) (fun _ h9 => h9) dX2_createWorkingKey_89 ?_
    refine lv_iload hx hb dX2_createWorkingKey_92 (lv_at hl 9 rfl) ?_
    refine sd_tk hx hb hTK hS (k := i) rfl (by omega) (by decide) dX2_createWorkingKey_94 ?_
    refine lv_isub hx hb dX2_createWorkingKey_95 ?_
    refine vp_callSi (va_runV (As := [.int ((a1 + c1) - (sd_kc i))]) (rest := [.int (2 * (nI i)), .ref k]) ⟨hx, hb, hml, hown, hts⟩ (mt_G l dC dI cB cI h0 ((a1 + c1) - (sd_kc i))) (cwV 1 hts (lw_V q206 q208 qs6 q18 q209) rfl rfl rfl (by decide +kernel) ⟨Nat.le_of_ble_eq_true rfl, Nat.le_of_ble_eq_true rfl⟩) (sd_purV (va_recv hK hP (ci := 2) (q0 := 0) rfl rfl) hK hV hS (hP.sub [] rfl)) rfl rfl hl.1 rfl (lv_room (Nat.le_of_ble_eq_true rfl)) dX2_createWorkingKey_96 ⟨Nat.le_of_ble_eq_true rfl, Nat.le_of_ble_eq_true rfl⟩).run (fun g1 hg1 => ?_)
    refine sd_iast hx hb hK hP hD hS 2 1 rfl rfl (k := 2 * i) (sd_m2 i) (by omega) (by decide) dX2_createWorkingKey_99 (fun H locs hP hD hS => ?_)
    have hP : va_P (dC, dI) sd_cl [(h0, .inr (2, fs)), (a, .inl (cB, 16, .inl f)), (k, .inl (cI, 32, .inl (upd u (2 * i) g1)))] H := hP
    have hD : va_D A [(h0, .inr (2, fs)), (a, .inl (cB, 16, .inl f)), (k, .inl (cI, 32, .inl (upd u (2 * i) g1)))] := hD
    refine lv_aload_n hx hb dX2_createWorkingKey_100 rfl (lv_at hl 2 rfl) ?_
    refine lv_iconst (v := 2) hx hb dX2_createWorkingKey_101 (by decide) ?_
    refine lv_iload hx hb dX2_createWorkingKey_102 (lv_at hl 9 rfl) ?_
    refine lv_imul hx hb dX2_createWorkingKey_104 ?_
    refine lv_iconst (v := 1) hx hb dX2_createWorkingKey_105 (by decide) ?_
    refine lv_iadd hx hb dX2_createWorkingKey_106 ?_
    refine lv_aload_n hx hb dX2_createWorkingKey_107 rfl (lv_at hl 0 rfl) ?_
    refine lv_iload hx hb dX2_createWorkingKey_108 (lv_at hl 6 rfl) ?_
    refine lv_iload hx hb dX2_createWorkingKey_110 (lv_at hl 8 rfl) ?_
    refine lv_isub hx hb dX2_createWorkingKey_112 ?_
    refine va_gets hx hb hZK hS hown (hts _ q204) (fun _ h9 => h9) dX2_createWorkingKey_113 ?_
    refine lv_iload hx hb dX2_createWorkingKey_116 (lv_at hl 9 rfl) ?_
    refine sd_tk hx hb hTK hS (k := i) rfl (by omega) (by decide) dX2_createWorkingKey_118 ?_
    refine lv_iadd hx hb dX2_createWorkingKey_119 ?_
    refine vp_callSi (va_runV (As := [.int ((b1 - d1) + (sd_kc i))]) (rest := [.int ((2 * (nI i)) + 1), .ref k]) ⟨hx, hb, hml, hown, hts⟩ (mt_G l dC dI cB cI h0 ((b1 - d1) + (sd_kc i))) (cwV 1 hts (lw_V q206 q208 qs6 q18 q209) rfl rfl rfl (by decide +kernel) ⟨Nat.le_of_ble_eq_true rfl, Nat.le_of_ble_eq_true rfl⟩) (sd_purV (va_recv hK hP (ci := 2) (q0 := 0) rfl rfl) hK hV hS (hP.sub [] rfl)) rfl rfl hl.1 rfl (lv_room (Nat.le_of_ble_eq_true rfl)) dX2_createWorkingKey_120 ⟨Nat.le_of_ble_eq_true rfl, Nat.le_of_ble_eq_true rfl⟩).run (fun g2 hg2 => ?_)
    refine sd_iast hx hb hK hP hD hS 2 1 rfl rfl (k := 2 * i + 1) (sd_m21 i) (by omega) (by decide) dX2_createWorkingKey_123 (fun H locs hP hD hS => ?_)
    have hP : va_P (dC, dI) sd_cl [(h0, .inr (2, fs)), (a, .inl (cB, 16, .inl f)), (k, .inl (cI, 32, .inl (upd (upd u (2 * i) g1) (2 * i + 1) g2)))] H := hP
    have hD : va_D A [(h0, .inr (2, fs)), (a, .inl (cB, 16, .inl f)), (k, .inl (cI, 32, .inl (upd (upd u (2 * i) g1) (2 * i + 1) g2)))] := hD
    have hu := sd_two hu (hg1.trans (sd_rk_e hq)) (hg2.trans (sd_rk_o hq))
    refine lv_iload hx hb dX2_createWorkingKey_124 (lv_at hl 9 rfl) ?_
    refine lv_iconst (v := 2) hx hb dX2_createWorkingKey_126 (by decide) ?_
    refine lv_irem hx hb dX2_createWorkingKey_127 (by decide) ?_
    refine sd_top (y := (nI (i % 2))) (sd_rem2 (by omega)) ?_
    refine lv_if_ne (tgt := 154) hx hb dX2_createWorkingKey_128 (by decide) (fun hm => ?_) (fun hm => ?_)
    · have hq1 := sd_ks_o (sd_mod1 hm) hq
      refine lv_aload_n hx hb dX2_createWorkingKey_154 rfl (lv_at hl 0 rfl) ?_
      refine lv_lload hx hb dX2_createWorkingKey_155 (lv_at hl 4 rfl) ?_
      refine vp_callSl (va_runV (As := [.long (sd_jn c1 d1)]) (rest := []) ⟨hx, hb, hml, hown, hts⟩ (mt_rotateLeft8 l dC dI cB cI h0 (sd_jn c1 d1)) (cwV 1 hts (lw_V q222 q224 qs8 q18 q225) rfl rfl rfl (by decide +kernel) ⟨Nat.le_of_ble_eq_true rfl, Nat.le_of_ble_eq_true rfl⟩) (sd_purV (va_recv hK hP (ci := 2) (q0 := 0) rfl rfl) hK hV hS (hP.sub [] rfl)) rfl rfl hl.1 rfl (lv_room (Nat.le_of_ble_eq_true rfl)) dX2_createWorkingKey_157 ⟨Nat.le_of_ble_eq_true rfl, Nat.le_of_ble_eq_true rfl⟩).run (fun y1 hy1 => ?_)
      refine sd_topL (y := (sd_jn ((c1 <<< ((8 : Int32) &&& 31)) ||| sd_us d1 24) ((d1 <<< ((8 : Int32) &&& 31)) ||| sd_us c1 24))) (hy1.trans (sd_rl c1 d1)) ?_
      refine lv_lstore (lv' := [(5, .long (sd_jn ((c1 <<< ((8 : Int32) &&& 31)) ||| sd_us d1 24) ((d1 <<< ((8 : Int32) &&& 31)) ||| sd_us c1 24))), (0, .ref h0), (1, .ref a), (2, .ref k), (3, .long (sd_jn a1 b1)), (7, .int a1), (8, .int b1), (9, .int c1), (10, .int d1), (11, .int (nI i))]) hx hb dX2_createWorkingKey_160 hl (by decide) rfl (fun ls hl => ?_)
      refine lv_aload_n hx hb dX2_createWorkingKey_162 rfl (lv_at hl 1 rfl) ?_
      refine lv_lload hx hb dX2_createWorkingKey_163 (lv_at hl 0 rfl) ?_
      refine vp_callSi (va_runV (As := [.long (sd_jn ((c1 <<< ((8 : Int32) &&& 31)) ||| sd_us d1 24) ((d1 <<< ((8 : Int32) &&& 31)) ||| sd_us c1 24))]) (rest := []) ⟨hx, hb, hml, hown, hts⟩ (mt_extractW0 l dC dI cB cI h0 (sd_jn ((c1 <<< ((8 : Int32) &&& 31)) ||| sd_us d1 24) ((d1 <<< ((8 : Int32) &&& 31)) ||| sd_us c1 24))) (cwV 1 hts (lw_V q196 q198 qs4 q18 q199) rfl rfl rfl (by decide +kernel) ⟨Nat.le_of_ble_eq_true rfl, Nat.le_of_ble_eq_true rfl⟩) (sd_purV (va_recv hK hP (ci := 2) (q0 := 0) rfl rfl) hK hV hS (hP.sub [] rfl)) rfl rfl hl.1 rfl (lv_room (Nat.le_of_ble_eq_true rfl)) dX2_createWorkingKey_165 ⟨Nat.le_of_ble_eq_true rfl, Nat.le_of_ble_eq_true rfl⟩).run (fun y2 hy2 => ?_)
      refine sd_top (y := ((c1 <<< ((8 : Int32) &&& 31)) ||| sd_us d1 24)) (hy2.trans (sd_w0 _ _)) ?_
      refine lv_istore (lv' := [(9, .int ((c1 <<< ((8 : Int32) &&& 31)) ||| sd_us d1 24)), (5, .long (sd_jn ((c1 <<< ((8 : Int32) &&& 31)) ||| sd_us d1 24) ((d1 <<< ((8 : Int32) &&& 31)) ||| sd_us c1 24))), (0, .ref h0), (1, .ref a), (2, .ref k), (3, .long (sd_jn a1 b1)), (7, .int a1), (8, .int b1), (10, .int d1), (11, .int (nI i))]) hx hb dX2_createWorkingKey_168 hl (by decide) rfl (fun ls hl => ?_)
      refine lv_aload_n hx hb dX2_createWorkingKey_170 rfl (lv_at hl 2 rfl) ?_
      refine lv_lload hx hb dX2_createWorkingKey_171 (lv_at hl 1 rfl) ?_
      refine vp_callSi (va_runV (As := [.long (sd_jn ((c1 <<< ((8 : Int32) &&& 31)) ||| sd_us d1 24) ((d1 <<< ((8 : Int32) &&& 31)) ||| sd_us c1 24))]) (rest := []) ⟨hx, hb, hml, hown, hts⟩ (mt_extractW1 l dC dI cB cI h0 (sd_jn ((c1 <<< ((8 : Int32) &&& 31)) ||| sd_us d1 24) ((d1 <<< ((8 : Int32) &&& 31)) ||| sd_us c1 24))) (cwV 1 hts (lw_V q200 q202 qs5 q18 q203) rfl rfl rfl (by decide +kernel) ⟨Nat.le_of_ble_eq_true rfl, Nat.le_of_ble_eq_true rfl⟩) (sd_purV (va_recv hK hP (ci := 2) (q0 := 0) rfl rfl) hK hV hS (hP.sub [] rfl)) rfl rfl hl.1 rfl (lv_room (Nat.le_of_ble_eq_true rfl)) dX2_createWorkingKey_173 ⟨Nat.le_of_ble_eq_true rfl, Nat.le_of_ble_eq_true rfl⟩).run (fun y3 hy3 => ?_)
      refine sd_top (y := ((d1 <<< ((8 : Int32) &&& 31)) ||| sd_us c1 24)) (hy3.trans (sd_w1 _ _)) ?_
      refine lv_istore (lv' := [(10, .int ((d1 <<< ((8 : Int32) &&& 31)) ||| sd_us c1 24)), (9, .int ((c1 <<< ((8 : Int32) &&& 31)) ||| sd_us d1 24)), (5, .long (sd_jn ((c1 <<< ((8 : Int32) &&& 31)) ||| sd_us d1 24) ((d1 <<< ((8 : Int32) &&& 31)) ||| sd_us c1 24))), (0, .ref h0), (1, .ref a), (2, .ref k), (3, .long (sd_jn a1 b1)), (7, .int a1), (8, .int b1), (11, .int (nI i))]) hx hb dX2_createWorkingKey_176 hl (by decide) rfl (fun ls hl => ?_)
      refine lv_iinc (v := (nI (i + 1))) (lv' := [(11, .int (nI (i + 1))), (10, .int ((d1 <<< ((8 : Int32) &&& 31)) ||| sd_us c1 24)), (9, .int ((c1 <<< ((8 : Int32) &&& 31)) ||| sd_us d1 24)), (5, .long (sd_jn ((c1 <<< ((8 : Int32) &&& 31)) ||| sd_us d1 24) ((d1 <<< ((8 : Int32) &&& 31)) ||| sd_us c1 24))), (0, .ref h0), (1, .ref a), (2, .ref k), (3, .long (sd_jn a1 b1)), (7, .int a1), (8, .int b1)]) hx hb dX2_createWorkingKey_178 hl (k := 9) rfl (nI_1 i) (by decide) rfl (fun ls hl => ?_)
      refine lv_goto (tgt := 71) hx hb dX2_createWorkingKey_181 (by decide) ?_
      exact ih (i + 1) _ H locs ls a1 b1 ((c1 <<< ((8 : Int32) &&& 31)) ||| sd_us d1 24) ((d1 <<< ((8 : Int32) &&& 31)) ||| sd_us c1 24) (by omega) hq1 hu hP hD hS (lv_sub hl [4, 5, 6, 7, 3, 8, 9, 2, 1, 0] rfl)
    · have hq1 := sd_ks_e (sd_mod0 hm) hq
      refine lv_aload_n hx hb dX2_createWorkingKey_131 rfl (lv_at hl 0 rfl) ?_
      refine lv_lload_n hx hb dX2_createWorkingKey_132 rfl (lv_at hl 3 rfl) ?_
      refine vp_callSl (va_runV (As := [.long (sd_jn a1 b1)]) (rest := []) ⟨hx, hb, hml, hown, hts⟩ (mt_rotateRight8 l dC dI cB cI h0 (sd_jn a1 b1)) (cwV 1 hts (lw_V q218 q220 qs7 q18 q221) rfl rfl rfl (by decide +kernel) ⟨Nat.le_of_ble_eq_true rfl, Nat.le_of_ble_eq_true rfl⟩) (sd_purV (va_recv hK hP (ci := 2) (q0 := 0) rfl rfl) hK hV hS (hP.sub [] rfl)) rfl rfl hl.1 rfl (lv_room (Nat.le_of_ble_eq_true rfl)) dX2_createWorkingKey_133 ⟨Nat.le_of_ble_eq_true rfl, Nat.le_of_ble_eq_true rfl⟩).run (fun y1 hy1 => ?_)
      refine sd_topL (y := (sd_jn (sd_us a1 8 ||| (b1 <<< ((24 : Int32) &&& 31))) (sd_us b1 8 ||| (a1 <<< ((24 : Int32) &&& 31))))) (hy1.trans (sd_rr a1 b1)) ?_
      refine lv_lstore_n (lv' := [(3, .long (sd_jn (sd_us a1 8 ||| (b1 <<< ((24 : Int32) &&& 31))) (sd_us b1 8 ||| (a1 <<< ((24 : Int32) &&& 31))))), (0, .ref h0), (1, .ref a), (2, .ref k), (5, .long (sd_jn c1 d1)), (7, .int a1), (8, .int b1), (9, .int c1), (10, .int d1), (11, .int (nI i))]) hx hb dX2_createWorkingKey_136 rfl hl (by decide) rfl (fun ls hl => ?_)
      refine lv_aload_n hx hb dX2_createWorkingKey_137 rfl (lv_at hl 1 rfl) ?_
      refine lv_lload_n hx hb dX2_createWorkingKey_138 rfl (lv_at hl 0 rfl) ?_
      refine vp_callSi (va_runV (As := [.long (sd_jn (sd_us a1 8 ||| (b1 <<< ((24 : Int32) &&& 31))) (sd_us b1 8 ||| (a1 <<< ((24 : Int32) &&& 31))))]) (rest := []) ⟨hx, hb, hml, hown, hts⟩ (mt_extractW0 l dC dI cB cI h0 (sd_jn (sd_us a1 8 ||| (b1 <<< ((24 : Int32) &&& 31))) (sd_us b1 8 ||| (a1 <<< ((24 : Int32) &&& 31))))) (cwV 1 hts (lw_V q196 q198 qs4 q18 q199) rfl rfl rfl (by decide +kernel) ⟨Nat.le_of_ble_eq_true rfl, Nat.le_of_ble_eq_true rfl⟩) (sd_purV (va_recv hK hP (ci := 2) (q0 := 0) rfl rfl) hK hV hS (hP.sub [] rfl)) rfl rfl hl.1 rfl (lv_room (Nat.le_of_ble_eq_true rfl)) dX2_createWorkingKey_139 ⟨Nat.le_of_ble_eq_true rfl, Nat.le_of_ble_eq_true rfl⟩).run (fun y2 hy2 => ?_)
      refine sd_top (y := (sd_us a1 8 ||| (b1 <<< ((24 : Int32) &&& 31)))) (hy2.trans (sd_w0 _ _)) ?_
      refine lv_istore (lv' := [(7, .int (sd_us a1 8 ||| (b1 <<< ((24 : Int32) &&& 31)))), (3, .long (sd_jn (sd_us a1 8 ||| (b1 <<< ((24 : Int32) &&& 31))) (sd_us b1 8 ||| (a1 <<< ((24 : Int32) &&& 31))))), (0, .ref h0), (1, .ref a), (2, .ref k), (5, .long (sd_jn c1 d1)), (8, .int b1), (9, .int c1), (10, .int d1), (11, .int (nI i))]) hx hb dX2_createWorkingKey_142 hl (by decide) rfl (fun ls hl => ?_)
      refine lv_aload_n hx hb dX2_createWorkingKey_144 rfl (lv_at hl 2 rfl) ?_
      refine lv_lload_n hx hb dX2_createWorkingKey_145 rfl (lv_at hl 1 rfl) ?_
      refine vp_callSi (va_runV (As := [.long (sd_jn (sd_us a1 8 ||| (b1 <<< ((24 : Int32) &&& 31))) (sd_us b1 8 ||| (a1 <<< ((24 : Int32) &&& 31))))]) (rest := []) ⟨hx, hb, hml, hown, hts⟩ (mt_extractW1 l dC dI cB cI h0 (sd_jn (sd_us a1 8 ||| (b1 <<< ((24 : Int32) &&& 31))) (sd_us b1 8 ||| (a1 <<< ((24 : Int32) &&& 31))))) (cwV 1 hts (lw_V q200 q202 qs5 q18 q203) rfl rfl rfl (by decide +kernel) ⟨Nat.le_of_ble_eq_true rfl, Nat.le_of_ble_eq_true rfl⟩) (sd_purV (va_recv hK hP (ci := 2) (q0 := 0) rfl rfl) hK hV hS (hP.sub [] rfl)) rfl rfl hl.1 rfl (lv_room (Nat.le_of_ble_eq_true rfl)) dX2_createWorkingKey_146 ⟨Nat.le_of_ble_eq_true rfl, Nat.le_of_ble_eq_true rfl⟩).run (fun y3 hy3 => ?_)
      refine sd_top (y := (sd_us b1 8 ||| (a1 <<< ((24 : Int32) &&& 31)))) (hy3.trans (sd_w1 _ _)) ?_
      refine lv_istore (lv' := [(8, .int (sd_us b1 8 ||| (a1 <<< ((24 : Int32) &&& 31)))), (7, .int (sd_us a1 8 ||| (b1 <<< ((24 : Int32) &&& 31)))), (3, .long (sd_jn (sd_us a1 8 ||| (b1 <<< ((24 : Int32) &&& 31))) (sd_us b1 8 ||| (a1 <<< ((24 : Int32) &&& 31))))), (0, .ref h0), (1, .ref a), (2, .ref k), (5, .long (sd_jn c1 d1)), (9, .int c1), (10, .int d1), (11, .int (nI i))]) hx hb dX2_createWorkingKey_149 hl (by decide) rfl (fun ls hl => ?_)
      refine lv_goto (tgt := 178) hx hb dX2_createWorkingKey_151 (by decide) ?_
      refine lv_iinc (v := (nI (i + 1))) (lv' := [(11, .int (nI (i + 1))), (8, .int (sd_us b1 8 ||| (a1 <<< ((24 : Int32) &&& 31)))), (7, .int (sd_us a1 8 ||| (b1 <<< ((24 : Int32) &&& 31)))), (3, .long (sd_jn (sd_us a1 8 ||| (b1 <<< ((24 : Int32) &&& 31))) (sd_us b1 8 ||| (a1 <<< ((24 : Int32) &&& 31))))), (0, .ref h0), (1, .ref a), (2, .ref k), (5, .long (sd_jn c1 d1)), (9, .int c1), (10, .int d1)]) hx hb dX2_createWorkingKey_178 hl (k := 9) rfl (nI_1 i) (by decide) rfl (fun ls hl => ?_)
      refine lv_goto (tgt := 71) hx hb dX2_createWorkingKey_181 (by decide) ?_
      exact ih (i + 1) _ H locs ls (sd_us a1 8 ||| (b1 <<< ((24 : Int32) &&& 31))) (sd_us b1 8 ||| (a1 <<< ((24 : Int32) &&& 31))) c1 d1 (by omega) hq1 hu hP hD hS (lv_sub hl [4, 5, 6, 3, 7, 2, 1, 8, 9, 0] rfl)
end SDL3
set_option maxHeartbeats 4000000 in
set_option maxRecDepth 100000 in
/-- createWorkingKey -/
theorem mt_cwk (l : Launch) (dC : Nat → ClassId) (dI : Nat → Nat → Nat) (cB cI : ClassId) (h0 a : Nat) (fs : List Value) (f : Nat → Int32) (sz : Nat) : Met l yX2_createWorkingKey (ws_ yX2_createWorkingKey cX2_createWorkingKey 12 (some (.array .int))) ({ frames := 1, cells := 1, slots := 32, locals := 25 } : Room) (va_Pc [.ref h0, .ref a] (sd_pre (dC, dI) cB cI [(h0, .inr (2, fs)), (a, .inl (cB, 16, .inl f))] sz)) (va_Qr (fun u : Nat → Int32 => ∀ j, j < 32 → u j = sd_rk (sd_w4 (fun j => f j &&& 255) 0) (sd_w4 (fun j => f j &&& 255) 4) (sd_w4 (fun j => f j &&& 255) 8) (sd_w4 (fun j => f j &&& 255) 12) j) (fun u k t => va_P (dC, dI) sd_cl [(h0, .inr (2, fs)), (a, .inl (cB, 16, .inl f)), (k, .inl (cI, 32, .inl u))] t.heap ∧ va_D (va_A [(h0, .inr (2, fs)), (a, .inl (cB, 16, .inl f))] sz) [(h0, .inr (2, fs)), (a, .inl (cB, 16, .inl f)), (k, .inl (cI, 32, .inl u))]) (va_A [(h0, .inr (2, fs)), (a, .inl (cB, 16, .inl f))] sz)) 1 32 (va_A [(h0, .inr (2, fs)), (a, .inl (cB, 16, .inl f))] sz) := by
  refine sd_metW (Qc := fun A => va_Qr (fun u : Nat → Int32 => ∀ j, j < 32 → u j = sd_rk (sd_w4 (fun j => f j &&& 255) 0) (sd_w4 (fun j => f j &&& 255) 4) (sd_w4 (fun j => f j &&& 255) 8) (sd_w4 (fun j => f j &&& 255) 12) j) (fun u k t => va_P (dC, dI) sd_cl [(h0, .inr (2, fs)), (a, .inl (cB, 16, .inl f)), (k, .inl (cI, 32, .inl u))] t.heap ∧ va_D A [(h0, .inr (2, fs)), (a, .inl (cB, 16, .inl f)), (k, .inl (cI, 32, .inl u))]) A) (by decide) (Nat.le_of_ble_eq_true rfl) ?_
  intro p e s m below meth c ls A hx hb hr hml hts hown hlocks hname hP hK hD hV hA hS hl
  have hown : s.vm.findClass RX2 = some m.cls := hown
  have hl : lv_has ls 12 [(0, .ref h0), (1, .ref a)] := hl
  refine lv_aload_n hx hb dX2_createWorkingKey_0 rfl (lv_at hl 1 rfl) ?_
  refine va_alen (v := 16) hx hb hK hP 1 0 rfl rfl rfl dX2_createWorkingKey_1 ?_
  refine lv_bipush (v := 16) hx hb dX2_createWorkingKey_2 (by decide) ?_
  refine lv_icmp_eq (tgt := 17) hx hb dX2_createWorkingKey_4 (by decide) (fun _ => ?_) (fun h => absurd rfl h)
  refine lv_bipush (v := 32) hx hb dX2_createWorkingKey_17 (by decide) ?_
  refine sd_newI hx hb hts hK hP hD hS hA 32 (by decide) (by decide) (by decide) (Nat.le_of_ble_eq_true rfl) (Nat.le_of_ble_eq_true rfl) dX2_createWorkingKey_19 (fun k H hP hD hS => ?_)
  have hP : va_P (dC, dI) sd_cl [(h0, .inr (2, fs)), (a, .inl (cB, 16, .inl f)), (k, .inl (cI, 32, .inl (fun _ => 0)))] H := hP
  have hD : va_D A [(h0, .inr (2, fs)), (a, .inl (cB, 16, .inl f)), (k, .inl (cI, 32, .inl (fun _ => 0)))] := hD
  refine lv_astore_n (lv' := [(2, .ref k), (0, .ref h0), (1, .ref a)]) hx hb dX2_createWorkingKey_21 rfl hl (by decide) rfl (fun ls hl => ?_)
  refine lv_aload_n hx hb dX2_createWorkingKey_22 rfl (lv_at hl 1 rfl) ?_
  refine lv_aload_n hx hb dX2_createWorkingKey_23 rfl (lv_at hl 2 rfl) ?_
  refine lv_iconst (v := 0) hx hb dX2_createWorkingKey_24 (by decide) ?_
  refine vp_callSl (va_runV (As := [.ref a, .int 0]) (rest := []) ⟨hx, hb, hml, hown, hts⟩ (mt_b2l l dC dI cB cI h0 a 0 (by decide) f) (cwV 2 hts (lw_V q192 q194 qs3 q18 q195) rfl rfl rfl (by decide +kernel) ⟨Nat.le_of_ble_eq_true rfl, Nat.le_of_ble_eq_true rfl⟩) (sd_purV (va_recv hK hP (ci := 2) (q0 := 0) rfl rfl) hK hV hS (hP.sub [1] rfl)) rfl rfl hl.1 rfl (lv_room (Nat.le_of_ble_eq_true rfl)) dX2_createWorkingKey_25 ⟨Nat.le_of_ble_eq_true rfl, Nat.le_of_ble_eq_true rfl⟩).run (fun v1 hv1 => ?_)
  refine sd_topL (y := (sd_jn (sd_w4 (fun j => f j &&& 255) 0) (sd_w4 (fun j => f j &&& 255) 4))) (hv1.trans (sd_bw8 (fun _ _ => rfl) (n := 16) (by decide))) ?_
  refine lv_lstore_n (lv' := [(3, .long (sd_jn (sd_w4 (fun j => f j &&& 255) 0) (sd_w4 (fun j => f j &&& 255) 4))), (2, .ref k), (0, .ref h0), (1, .ref a)]) hx hb dX2_createWorkingKey_28 rfl hl (by decide) rfl (fun ls hl => ?_)
  refine lv_aload_n hx hb dX2_createWorkingKey_29 rfl (lv_at hl 2 rfl) ?_
  refine lv_aload_n hx hb dX2_createWorkingKey_30 rfl (lv_at hl 3 rfl) ?_
  refine lv_bipush (v := 8) hx hb dX2_createWorkingKey_31 (by decide) ?_
  refine vp_callSl (va_runV (As := [.ref a, .int 8]) (rest := []) ⟨hx, hb, hml, hown, hts⟩ (mt_b2l l dC dI cB cI h0 a 8 (by decide) f) (cwV 2 hts (lw_V q192 q194 qs3 q18 q195) rfl rfl rfl (by decide +kernel) ⟨Nat.le_of_ble_eq_true rfl, Nat.le_of_ble_eq_true rfl⟩) (sd_purV (va_recv hK hP (ci := 2) (q0 := 0) rfl rfl) hK hV hS (hP.sub [1] rfl)) rfl rfl hl.1 rfl (lv_room (Nat.le_of_ble_eq_true rfl)) dX2_createWorkingKey_33 ⟨Nat.le_of_ble_eq_true rfl, Nat.le_of_ble_eq_true rfl⟩).run (fun v2 hv2 => ?_)
  refine sd_topL (y := (sd_jn (sd_w4 (fun j => f j &&& 255) 8) (sd_w4 (fun j => f j &&& 255) 12))) (hv2.trans (sd_bw8 (fun _ _ => rfl) (n := 16) (by decide))) ?_
  refine lv_lstore (lv' := [(5, .long (sd_jn (sd_w4 (fun j => f j &&& 255) 8) (sd_w4 (fun j => f j &&& 255) 12))), (3, .long (sd_jn (sd_w4 (fun j => f j &&& 255) 0) (sd_w4 (fun j => f j &&& 255) 4))), (2, .ref k), (0, .ref h0), (1, .ref a)]) hx hb dX2_createWorkingKey_36 hl (by decide) rfl (fun ls hl => ?_)
  refine lv_aload_n hx hb dX2_createWorkingKey_38 rfl (lv_at hl 3 rfl) ?_
  refine lv_lload_n hx hb dX2_createWorkingKey_39 rfl (lv_at hl 1 rfl) ?_
  refine vp_callSi (va_runV (As := [.long (sd_jn (sd_w4 (fun j => f j &&& 255) 0) (sd_w4 (fun j => f j &&& 255) 4))]) (rest := []) ⟨hx, hb, hml, hown, hts⟩ (mt_extractW0 l dC dI cB cI h0 (sd_jn (sd_w4 (fun j => f j &&& 255) 0) (sd_w4 (fun j => f j &&& 255) 4))) (cwV 1 hts (lw_V q196 q198 qs4 q18 q199) rfl rfl rfl (by decide +kernel) ⟨Nat.le_of_ble_eq_true rfl, Nat.le_of_ble_eq_true rfl⟩) (sd_purV (va_recv hK hP (ci := 2) (q0 := 0) rfl rfl) hK hV hS (hP.sub [] rfl)) rfl rfl hl.1 rfl (lv_room (Nat.le_of_ble_eq_true rfl)) dX2_createWorkingKey_40 ⟨Nat.le_of_ble_eq_true rfl, Nat.le_of_ble_eq_true rfl⟩).run (fun e0 he0 => ?_)
  refine sd_top (y := (sd_w4 (fun j => f j &&& 255) 0)) (he0.trans (sd_w0 _ _)) ?_
  refine lv_istore (lv' := [(7, .int (sd_w4 (fun j => f j &&& 255) 0)), (5, .long (sd_jn (sd_w4 (fun j => f j &&& 255) 8) (sd_w4 (fun j => f j &&& 255) 12))), (3, .long (sd_jn (sd_w4 (fun j => f j &&& 255) 0) (sd_w4 (fun j => f j &&& 255) 4))), (2, .ref k), (0, .ref h0), (1, .ref a)]) hx hb dX2_createWorkingKey_43 hl (by decide) rfl (fun ls hl => ?_)
  refine lv_aload_n hx hb dX2_createWorkingKey_45 rfl (lv_at hl 4 rfl) ?_
  refine lv_lload_n hx hb dX2_createWorkingKey_46 rfl (lv_at hl 2 rfl) ?_
  refine vp_callSi (va_runV (As := [.long (sd_jn (sd_w4 (fun j => f j &&& 255) 0) (sd_w4 (fun j => f j &&& 255) 4))]) (rest := []) ⟨hx, hb, hml, hown, hts⟩ (mt_extractW1 l dC dI cB cI h0 (sd_jn (sd_w4 (fun j => f j &&& 255) 0) (sd_w4 (fun j => f j &&& 255) 4))) (cwV 1 hts (lw_V q200 q202 qs5 q18 q203) rfl rfl rfl (by decide +kernel) ⟨Nat.le_of_ble_eq_true rfl, Nat.le_of_ble_eq_true rfl⟩) (sd_purV (va_recv hK hP (ci := 2) (q0 := 0) rfl rfl) hK hV hS (hP.sub [] rfl)) rfl rfl hl.1 rfl (lv_room (Nat.le_of_ble_eq_true rfl)) dX2_createWorkingKey_47 ⟨Nat.le_of_ble_eq_true rfl, Nat.le_of_ble_eq_true rfl⟩).run (fun e1 he1 => ?_)
  refine sd_top (y := (sd_w4 (fun j => f j &&& 255) 4)) (he1.trans (sd_w1 _ _)) ?_
  refine lv_istore (lv' := [(8, .int (sd_w4 (fun j => f j &&& 255) 4)), (7, .int (sd_w4 (fun j => f j &&& 255) 0)), (5, .long (sd_jn (sd_w4 (fun j => f j &&& 255) 8) (sd_w4 (fun j => f j &&& 255) 12))), (3, .long (sd_jn (sd_w4 (fun j => f j &&& 255) 0) (sd_w4 (fun j => f j &&& 255) 4))), (2, .ref k), (0, .ref h0), (1, .ref a)]) hx hb dX2_createWorkingKey_50 hl (by decide) rfl (fun ls hl => ?_)
  refine lv_aload_n hx hb dX2_createWorkingKey_52 rfl (lv_at hl 5 rfl) ?_
  refine lv_lload hx hb dX2_createWorkingKey_53 (lv_at hl 2 rfl) ?_
  refine vp_callSi (va_runV (As := [.long (sd_jn (sd_w4 (fun j => f j &&& 255) 8) (sd_w4 (fun j => f j &&& 255) 12))]) (rest := []) ⟨hx, hb, hml, hown, hts⟩ (mt_extractW0 l dC dI cB cI h0 (sd_jn (sd_w4 (fun j => f j &&& 255) 8) (sd_w4 (fun j => f j &&& 255) 12))) (cwV 1 hts (lw_V q196 q198 qs4 q18 q199) rfl rfl rfl (by decide +kernel) ⟨Nat.le_of_ble_eq_true rfl, Nat.le_of_ble_eq_true rfl⟩) (sd_purV (va_recv hK hP (ci := 2) (q0 := 0) rfl rfl) hK hV hS (hP.sub [] rfl)) rfl rfl hl.1 rfl (lv_room (Nat.le_of_ble_eq_true rfl)) dX2_createWorkingKey_55 ⟨Nat.le_of_ble_eq_true rfl, Nat.le_of_ble_eq_true rfl⟩).run (fun e2 he2 => ?_)
  refine sd_top (y := (sd_w4 (fun j => f j &&& 255) 8)) (he2.trans (sd_w0 _ _)) ?_
  refine lv_istore (lv' := [(9, .int (sd_w4 (fun j => f j &&& 255) 8)), (8, .int (sd_w4 (fun j => f j &&& 255) 4)), (7, .int (sd_w4 (fun j => f j &&& 255) 0)), (5, .long (sd_jn (sd_w4 (fun j => f j &&& 255) 8) (sd_w4 (fun j => f j &&& 255) 12))), (3, .long (sd_jn (sd_w4 (fun j => f j &&& 255) 0) (sd_w4 (fun j => f j &&& 255) 4))), (2, .ref k), (0, .ref h0), (1, .ref a)]) hx hb dX2_createWorkingKey_58 hl (by decide) rfl (fun ls hl => ?_)
  refine lv_aload_n hx hb dX2_createWorkingKey_60 rfl (lv_at hl 6 rfl) ?_
  refine lv_lload hx hb dX2_createWorkingKey_61 (lv_at hl 3 rfl) ?_
  refine vp_callSi (va_runV (As := [.long (sd_jn (sd_w4 (fun j => f j &&& 255) 8) (sd_w4 (fun j => f j &&& 255) 12))]) (rest := []) ⟨hx, hb, hml, hown, hts⟩ (mt_extractW1 l dC dI cB cI h0 (sd_jn (sd_w4 (fun j => f j &&& 255) 8) (sd_w4 (fun j => f j &&& 255) 12))) (cwV 1 hts (lw_V q200 q202 qs5 q18 q203) rfl rfl rfl (by decide +kernel) ⟨Nat.le_of_ble_eq_true rfl, Nat.le_of_ble_eq_true rfl⟩) (sd_purV (va_recv hK hP (ci := 2) (q0 := 0) rfl rfl) hK hV hS (hP.sub [] rfl)) rfl rfl hl.1 rfl (lv_room (Nat.le_of_ble_eq_true rfl)) dX2_createWorkingKey_63 ⟨Nat.le_of_ble_eq_true rfl, Nat.le_of_ble_eq_true rfl⟩).run (fun e3 he3 => ?_)
  refine sd_top (y := (sd_w4 (fun j => f j &&& 255) 12)) (he3.trans (sd_w1 _ _)) ?_
  refine lv_istore (lv' := [(10, .int (sd_w4 (fun j => f j &&& 255) 12)), (9, .int (sd_w4 (fun j => f j &&& 255) 8)), (8, .int (sd_w4 (fun j => f j &&& 255) 4)), (7, .int (sd_w4 (fun j => f j &&& 255) 0)), (5, .long (sd_jn (sd_w4 (fun j => f j &&& 255) 8) (sd_w4 (fun j => f j &&& 255) 12))), (3, .long (sd_jn (sd_w4 (fun j => f j &&& 255) 0) (sd_w4 (fun j => f j &&& 255) 4))), (2, .ref k), (0, .ref h0), (1, .ref a)]) hx hb dX2_createWorkingKey_66 hl (by decide) rfl (fun ls hl => ?_)
  refine lv_iconst (v := 0) hx hb dX2_createWorkingKey_68 (by decide) ?_
  refine lv_istore (lv' := [(11, .int 0), (10, .int (sd_w4 (fun j => f j &&& 255) 12)), (9, .int (sd_w4 (fun j => f j &&& 255) 8)), (8, .int (sd_w4 (fun j => f j &&& 255) 4)), (7, .int (sd_w4 (fun j => f j &&& 255) 0)), (5, .long (sd_jn (sd_w4 (fun j => f j &&& 255) 8) (sd_w4 (fun j => f j &&& 255) 12))), (3, .long (sd_jn (sd_w4 (fun j => f j &&& 255) 0) (sd_w4 (fun j => f j &&& 255) 4))), (2, .ref k), (0, .ref h0), (1, .ref a)]) hx hb dX2_createWorkingKey_69 hl (by decide) rfl (fun ls hl => ?_)
  refine lp_cwk (f := f) (fs := fs) (a0 := (sd_w4 (fun j => f j &&& 255) 0)) (b0 := (sd_w4 (fun j => f j &&& 255) 4)) (c0 := (sd_w4 (fun j => f j &&& 255) 8)) (d0 := (sd_w4 (fun j => f j &&& 255) 12)) hx hb hml hown hts hK hV (fun u H locs ls a1 b1 c1 d1 hu hP hD hS hl => ?_) 16 0 _ H _ ls (sd_w4 (fun j => f j &&& 255) 0) (sd_w4 (fun j => f j &&& 255) 4) (sd_w4 (fun j => f j &&& 255) 8) (sd_w4 (fun j => f j &&& 255) 12) rfl rfl (fun j hj => absurd hj (by omega)) hP hD hS (lv_sub hl [8, 9, 7, 6, 5, 4, 3, 2, 1, 0] rfl)
  refine lv_aload_n hx hb dX2_createWorkingKey_184 rfl (lv_at hl 2 rfl) ?_
  exact W.aret (v := .ref k) hx hb hr (Or.inr ⟨_, rfl⟩) (Or.inr ⟨_, rfl⟩) (fun t ht hW => ⟨⟨u, k, rfl, hu, by rw [ht]; exact hP, hD⟩, hS.F ht⟩) hS.2.2 dX2_createWorkingKey_185
set_option maxHeartbeats 4000000 in
set_option maxRecDepth 100000 in
/-- init(b, kp) -/
theorem mt_init (l : Launch) (dC : Nat → ClassId) (dI : Nat → Nat → Nat) (cB cI : ClassId) (h0 kp a : Nat) (b : Int32) (hbn : narrow .boolean (.int b) = .int b) (hbf : fits .boolean (.int b) = true) (f : Nat → Int32) (sz : Nat) : Met l yX2_init_2 (ws_ yX2_init_2 cX2_init_2 3 none) ({ frames := 2, cells := 1, slots := 32, locals := 56 } : Room) (va_Pc [.ref h0, .int b, .ref kp] (sd_pre (dC, dI) cB cI [(h0, .inr (2, [.int 16, .null, .int 0])), (kp, .inr (3, [.ref a])), (a, .inl (cB, 16, .inl f))] sz)) (va_Qv (fun u : Nat × (Nat → Int32) => ∀ j, j < 32 → u.2 j = sd_rk (sd_w4 (fun j => f j &&& 255) 0) (sd_w4 (fun j => f j &&& 255) 4) (sd_w4 (fun j => f j &&& 255) 8) (sd_w4 (fun j => f j &&& 255) 12) j) (fun u t => va_P (dC, dI) sd_cl [(h0, .inr (2, [.int 16, .ref u.1, .int b])), (kp, .inr (3, [.ref a])), (a, .inl (cB, 16, .inl f)), (u.1, .inl (cI, 32, .inl u.2))] t.heap ∧ va_D (va_A [(h0, .inr (2, [.int 16, .null, .int 0])), (kp, .inr (3, [.ref a])), (a, .inl (cB, 16, .inl f))] sz) [(h0, .inr (2, [.int 16, .ref u.1, .int b])), (kp, .inr (3, [.ref a])), (a, .inl (cB, 16, .inl f)), (u.1, .inl (cI, 32, .inl u.2))]) (va_A [(h0, .inr (2, [.int 16, .null, .int 0])), (kp, .inr (3, [.ref a])), (a, .inl (cB, 16, .inl f))] sz)) 1 32 (va_A [(h0, .inr (2, [.int 16, .null, .int 0])), (kp, .inr (3, [.ref a])), (a, .inl (cB, 16, .inl f))] sz) := by
  refine sd_metW (Qc := fun A => va_Qv (fun u : Nat × (Nat → Int32) => ∀ j, j < 32 → u.2 j = sd_rk (sd_w4 (fun j => f j &&& 255) 0) (sd_w4 (fun j => f j &&& 255) 4) (sd_w4 (fun j => f j &&& 255) 8) (sd_w4 (fun j => f j &&& 255) 12) j) (fun u t => va_P (dC, dI) sd_cl [(h0, .inr (2, [.int 16, .ref u.1, .int b])), (kp, .inr (3, [.ref a])), (a, .inl (cB, 16, .inl f)), (u.1, .inl (cI, 32, .inl u.2))] t.heap ∧ va_D A [(h0, .inr (2, [.int 16, .ref u.1, .int b])), (kp, .inr (3, [.ref a])), (a, .inl (cB, 16, .inl f)), (u.1, .inl (cI, 32, .inl u.2))]) A) (by decide) (Nat.le_of_ble_eq_true rfl) ?_
  intro p e s m below meth c ls A hx hb hr hml hts hown hlocks hname hP hK hD hV hA hS hl
  have hown : s.vm.findClass RX2 = some m.cls := hown
  have hl : lv_has ls 3 [(0, .ref h0), (1, .int b), (2, .ref kp)] := hl
  refine lv_aload_n hx hb dX2_init_2_0 rfl (lv_at hl 0 rfl) ?_
  refine lv_iload_n hx hb dX2_init_2_1 rfl (lv_at hl 1 rfl) ?_
  refine va_put (D := (dC, dI)) (ci := 2) (v := .int b) (ty := .boolean) (C := RX2) (T := TX2) (N := 3) hx hb hts in_X2 tyX2 tyX2_ok nmX2 hown hK hP hD hS 0 rfl rfl 2 (by decide) (hts _ q78) (fun _ h9 => h9) rfl (by decide +kernel) hbn hbf (Nat.le_of_ble_eq_true rfl) dX2_init_2_2 (fun H locs hP hD hS => ?_)
  have hP : va_P (dC, dI) sd_cl [(h0, .inr (2, [.int 16, .null, .int b])), (kp, .inr (3, [.ref a])), (a, .inl (cB, 16, .inl f))] H := hP
  have hD : va_D A [(h0, .inr (2, [.int 16, .null, .int b])), (kp, .inr (3, [.ref a])), (a, .inl (cB, 16, .inl f))] := hD
  refine lv_aload_n hx hb dX2_init_2_5 rfl (lv_at hl 0 rfl) ?_
  refine lv_aload_n hx hb dX2_init_2_6 rfl (lv_at hl 0 rfl) ?_
  refine lv_aload_n hx hb dX2_init_2_7 rfl (lv_at hl 2 rfl) ?_
  refine va_castS hx hb hown (hts _ q115) (hK.1 3 _ rfl).2 (va_recv hK hP (ci := 3) (q0 := 1) rfl rfl) dX2_init_2_8 ?_
  refine va_csr (va_runV (As := []) (rest := [.ref h0, .ref h0]) ⟨hx, hb, hml, hown, hts⟩ (mt_getKey l dC dI cB cI kp a) (cwV 0 hts (lw_V q116 q117 q118 q19 q119) rfl rfl rfl (by decide +kernel) ⟨Nat.le_of_ble_eq_true rfl, Nat.le_of_ble_eq_true rfl⟩) (sd_purV (va_recv hK hP (ci := 3) (q0 := 1) rfl rfl) hK hV hS (hP.sub [1] rfl)) rfl rfl hl.1 rfl (lv_room (Nat.le_of_ble_eq_true rfl)) dX2_init_2_11 ⟨Nat.le_of_ble_eq_true rfl, Nat.le_of_ble_eq_true rfl⟩).run (fun k0 hk0 => ?_)
  subst hk0
  have hPc := hP.sub (ws' := [(h0, .inr (2, [.int 16, .null, .int b])), (k0, .inl (cB, 16, .inl f))]) [0, 2] rfl
  have hDc := hD.sub (ws' := [(h0, .inr (2, [.int 16, .null, .int b])), (k0, .inl (cB, 16, .inl f))]) [0, 2] (by decide) rfl
  have hFc := va_free (wc := [(h0, .inr (2, [.int 16, .null, .int b])), (k0, .inl (cB, 16, .inl f))]) hD hS hA [0, 2] rfl
  refine va_callr (va_runV (As := [.ref k0]) (rest := [.ref h0]) ⟨hx, hb, hml, hown, hts⟩ (mt_cwk l dC dI cB cI h0 k0 [.int 16, .null, .int b] f H.size) (cwV 1 hts (lw_V q120 q122 qs1 q18 q123) rfl rfl rfl (by decide +kernel) ⟨Nat.le_of_ble_eq_true rfl, Nat.le_of_ble_eq_true rfl⟩) (sd_preV (va_recv hK hP (ci := 2) (q0 := 0) rfl rfl) hK hV hS hPc hDc hFc) rfl rfl hl.1 rfl (lv_room (Nat.le_of_ble_eq_true rfl)) dX2_init_2_14 ⟨Nat.le_of_ble_eq_true rfl, Nat.le_of_ble_eq_true rfl⟩) hS (fun q _ h => hFc q h) hFc (fun u k t H locs ht hvm hw hB hz1 hk1 hS => ?_)
  obtain ⟨hP1, hD1⟩ := hB
  rw [ht] at hP1
  obtain ⟨hP, hD⟩ := va_join (wr := [(kp, .inr (3, [.ref k0]))]) (w1 := [(h0, .inr (2, [.int 16, .null, .int b])), (k0, .inl (cB, 16, .inl f)), (k, .inl (cI, 32, .inl u))]) hP hD [0, 2] [1] rfl rfl (by decide) (by decide) hk1 hFc hP1 hD1
  have hP : va_P (dC, dI) sd_cl [(kp, .inr (3, [.ref k0])), (h0, .inr (2, [.int 16, .null, .int b])), (k0, .inl (cB, 16, .inl f)), (k, .inl (cI, 32, .inl u))] H := hP
  have hD : va_D A [(kp, .inr (3, [.ref k0])), (h0, .inr (2, [.int 16, .null, .int b])), (k0, .inl (cB, 16, .inl f)), (k, .inl (cI, 32, .inl u))] := hD
  refine va_put (D := (dC, dI)) (ci := 2) (v := .ref k) (ty := .array .int) (C := RX2) (T := TX2) (N := 3) hx hb hts in_X2 tyX2 tyX2_ok nmX2 hown hK hP hD hS 1 rfl rfl 1 (by decide) (hts _ q77) (fun _ h9 => h9) rfl (by decide +kernel) rfl rfl (Nat.le_of_ble_eq_true rfl) dX2_init_2_17 (fun H locs hP hD hS => ?_)
  have hP : va_P (dC, dI) sd_cl [(kp, .inr (3, [.ref k0])), (h0, .inr (2, [.int 16, .ref k, .int b])), (k0, .inl (cB, 16, .inl f)), (k, .inl (cI, 32, .inl u))] H := hP
  have hD : va_D A [(kp, .inr (3, [.ref k0])), (h0, .inr (2, [.int 16, .ref k, .int b])), (k0, .inl (cB, 16, .inl f)), (k, .inl (cI, 32, .inl u))] := hD
  have hP := hP.sub (ws' := [(h0, .inr (2, [.int 16, .ref k, .int b])), (kp, .inr (3, [.ref k0])), (k0, .inl (cB, 16, .inl f)), (k, .inl (cI, 32, .inl u))]) [1, 0, 2, 3] rfl
  have hD := hD.sub (ws' := [(h0, .inr (2, [.int 16, .ref k, .int b])), (kp, .inr (3, [.ref k0])), (k0, .inl (cB, 16, .inl f)), (k, .inl (cI, 32, .inl u))]) [1, 0, 2, 3] (by decide) rfl
  refine W.widen (k := 1) (n := 32) (by first | omega | (dsimp only; omega)) (by first | omega | (dsimp only; omega)) ?_
  exact W.vret hx hb hr (fun t ht hW => ⟨⟨(k, u), rfl, hw, by rw [ht]; exact hP, hD⟩, hS.F ht⟩) hS.2.2 dX2_init_2_20
end
section
/-! ===== SEEDEngine: a block ===== -/
section SD_lp_enc
variable {p : Program} {l : Launch} {e : Env} {R : Room} {s : State} {m : MethodId} {args : Array Value} {below : List Frame} {meth : Method} {c : Code} {H : Heap} {locs : List Loc} {cells slots : Nat} {Q : State → Prop} {dC : Nat → ClassId} {dI : Nat → Nat → Nat} {cB cI : ClassId} {A : Nat → Prop}
set_option maxHeartbeats 4000000 in
set_option maxRecDepth 100000 in
/-- processBlock's loop -/
theorem lp_enc {K f g : Nat → Int32} {w4 : Int32 × Int32 × Int32 × Int32} {b : Int32} {h0 k x y : Nat} (hbb : ¬ b = 0) (hx : p.tables.exec = Jvm.exec) (hb : c.code = cX2_processBlock) (hml : c.maxLocals = 12) (hown : s.vm.findClass RX2 = some m.cls) (hts : ∀ w ∈ lw_all, w.before args s = true) (hK : va_K (dC, dI) sd_cl (sd_ty cB cI) s) (hV : sd_V A s) (hS : va_S A s.heap H locs) (hP : va_P (dC, dI) sd_cl [(h0, .inr (2, [.int 16, .ref k, .int b])), (k, .inl (cI, 32, .inl K)), (x, .inl (cB, 16, .inl f)), (y, .inl (cB, 16, .inl g))] H)
    (kk : ∀ (l0 l1 r0 r1 : Int32) (ls : Array Slot), sd_rs K (sd_or b) w4 16 = (l0, l1, r0, r1) → lv_has ls 12 [(0, .ref h0), (1, .ref x), (2, .int 0), (3, .ref y), (4, .int 0), (5, .long (sd_jn l0 l1)), (7, .long (sd_jn r0 r1)), (9, .int (nI 16))] → W p l e ({ frames := 4, cells := 0, slots := 0, locals := 97 } : Room) s m args below meth c H locs 0 0 Q (F0 m 196 ls [])) :
    ∀ (n i : Nat) (l0 l1 r0 r1 : Int32) (ls : Array Slot), i + n = 16 → sd_rs K (sd_or b) w4 i = (l0, l1, r0, r1) → lv_has ls 12 [(0, .ref h0), (1, .ref x), (2, .int 0), (3, .ref y), (4, .int 0), (5, .long (sd_jn l0 l1)), (7, .long (sd_jn r0 r1)), (9, .int (nI i))] → W p l e ({ frames := 4, cells := 0, slots := 0, locals := 97 } : Room) s m args below meth c H locs 0 0 Q (F0 m 87 ls []) := by
  intro n
  induction n with
  | zero =>
    intro i l0 l1 r0 r1 ls hi hq hl
    obtain rfl : i = 16 := by omega
    refine lv_iload hx hb dX2_processBlock_87 (lv_at hl 7 rfl) ?_
    refine lv_bipush (v := 16) hx hb dX2_processBlock_89 (by decide) ?_
    refine lv_icmp_ge (tgt := 139) hx hb dX2_processBlock_91 (by decide) (fun _ => ?_) (fun h => absurd (by decide) h)
    refine lv_goto (tgt := 196) hx hb dX2_processBlock_139 (by decide) ?_
    exact kk l0 l1 r0 r1 ls hq hl
  | succ n ih =>
    intro i l0 l1 r0 r1 ls hi hq hl
    refine lv_iload hx hb dX2_processBlock_87 (lv_at hl 7 rfl) ?_
    refine lv_bipush (v := 16) hx hb dX2_processBlock_89 (by decide) ?_
    refine lv_icmp_ge (tgt := 139) hx hb dX2_processBlock_91 (by decide) (fun h => absurd h (sd_g16 i (by omega))) (fun _ => ?_)
    have hor : sd_or b i = i := if_neg hbb
    have hq1 := sd_rs_s hq
    rw [hor] at hq1
    refine lv_lload hx hb dX2_processBlock_94 (lv_at hl 6 rfl) ?_
    refine lv_lstore (lv' := [(10, .long (sd_jn r0 r1)), (0, .ref h0), (1, .ref x), (2, .int 0), (3, .ref y), (4, .int 0), (5, .long (sd_jn l0 l1)), (7, .long (sd_jn r0 r1)), (9, .int (nI i))]) hx hb dX2_processBlock_96 hl (by decide) rfl (fun ls hl => ?_)
    refine lv_lload hx hb dX2_processBlock_98 (lv_at hl 6 rfl) ?_
    refine lv_aload_n hx hb dX2_processBlock_100 rfl (lv_at hl 1 rfl) ?_
    refine lv_aload_n hx hb dX2_processBlock_101 rfl (lv_at hl 1 rfl) ?_
    refine va_get (D := (dC, dI)) (ci := 2) (v := .ref k) (C := RX2) (T := TX2) (N := 3) hx hb hts in_X2 hown hK hP 0 rfl rfl 1 (by decide) (hts _ q77) (fun _ h9 => h9) rfl dX2_processBlock_102 ?_
    refine lv_iconst (v := 2) hx hb dX2_processBlock_105 (by decide) ?_
    refine lv_iload hx hb dX2_processBlock_106 (lv_at hl 8 rfl) ?_
    refine lv_imul hx hb dX2_processBlock_108 ?_
    refine sd_iald hx hb hK hP 1 1 rfl rfl (k := 2 * i) (sd_m2 i) (by omega) (by decide) dX2_processBlock_109 ?_
    refine lv_aload_n hx hb dX2_processBlock_110 rfl (lv_at hl 1 rfl) ?_
    refine va_get (D := (dC, dI)) (ci := 2) (v := .ref k) (C := RX2) (T := TX2) (N := 3) hx hb hts in_X2 hown hK hP 0 rfl rfl 1 (by decide) (hts _ q77) (fun _ h9 => h9) rfl dX2_processBlock_111 ?_
    refine lv_iconst (v := 2) hx hb dX2_processBlock_114 (by decide) ?_
    refine lv_iload hx hb dX2_processBlock_115 (lv_at hl 8 rfl) ?_
    refine lv_imul hx hb dX2_processBlock_117 ?_
    refine lv_iconst (v := 1) hx hb dX2_processBlock_118 (by decide) ?_
    refine lv_iadd hx hb dX2_processBlock_119 ?_
    refine sd_iald hx hb hK hP 1 1 rfl rfl (k := 2 * i + 1) (sd_m21 i) (by omega) (by decide) dX2_processBlock_120 ?_
    refine lv_lload hx hb dX2_processBlock_121 (lv_at hl 7 rfl) ?_
    refine vp_callSl (va_runV (As := [.int (K (2 * i)), .int (K (2 * i + 1)), .long (sd_jn r0 r1)]) (rest := [.long (sd_jn l0 l1)]) ⟨hx, hb, hml, hown, hts⟩ (mt_F l dC dI cB cI h0 [.int 16, .ref k, .int b] (K (2 * i)) (K (2 * i + 1)) r0 r1) (cwV 3 hts (lw_V q289 q291 qs9 q18 q292) rfl rfl rfl (by decide +kernel) ⟨Nat.le_of_ble_eq_true rfl, Nat.le_of_ble_eq_true rfl⟩) (sd_purV (va_recv hK hP (ci := 2) (q0 := 0) rfl rfl) hK hV hS (hP.sub [0] rfl)) rfl rfl hl.1 rfl (lv_room (Nat.le_of_ble_eq_true rfl)) dX2_processBlock_123 ⟨Nat.le_of_ble_eq_true rfl, Nat.le_of_ble_eq_true rfl⟩).run (fun z hz => ?_)
    refine lv_lxor hx hb dX2_processBlock_126 ?_
    refine sd_topL (y := (sd_jn (l0 ^^^ (sd_f2 (r0 ^^^ K (2 * i)) (r1 ^^^ K (2 * i + 1)) + sd_f1 (r0 ^^^ K (2 * i)) (r1 ^^^ K (2 * i + 1)))) (l1 ^^^ sd_f2 (r0 ^^^ K (2 * i)) (r1 ^^^ K (2 * i + 1))))) (by rw [hz]; exact sd_jn_xor _ _ _ _) ?_
    refine lv_lstore (lv' := [(7, .long (sd_jn (l0 ^^^ (sd_f2 (r0 ^^^ K (2 * i)) (r1 ^^^ K (2 * i + 1)) + sd_f1 (r0 ^^^ K (2 * i)) (r1 ^^^ K (2 * i + 1)))) (l1 ^^^ sd_f2 (r0 ^^^ K (2 * i)) (r1 ^^^ K (2 * i + 1))))), (10, .long (sd_jn r0 r1)), (0, .ref h0), (1, .ref x), (2, .int 0), (3, .ref y), (4, .int 0), (5, .long (sd_jn l0 l1)), (9, .int (nI i))]) hx hb dX2_processBlock_127 hl (by decide) rfl (fun ls hl => ?_)
    refine lv_lload hx hb dX2_processBlock_129 (lv_at hl 1 rfl) ?_
    refine lv_lstore (lv' := [(5, .long (sd_jn r0 r1)), (7, .long (sd_jn (l0 ^^^ (sd_f2 (r0 ^^^ K (2 * i)) (r1 ^^^ K (2 * i + 1)) + sd_f1 (r0 ^^^ K (2 * i)) (r1 ^^^ K (2 * i + 1)))) (l1 ^^^ sd_f2 (r0 ^^^ K (2 * i)) (r1 ^^^ K (2 * i + 1))))), (10, .long (sd_jn r0 r1)), (0, .ref h0), (1, .ref x), (2, .int 0), (3, .ref y), (4, .int 0), (9, .int (nI i))]) hx hb dX2_processBlock_131 hl (by decide) rfl (fun ls hl => ?_)
    refine lv_iinc (v := (nI (i + 1))) (lv' := [(9, .int (nI (i + 1))), (5, .long (sd_jn r0 r1)), (7, .long (sd_jn (l0 ^^^ (sd_f2 (r0 ^^^ K (2 * i)) (r1 ^^^ K (2 * i + 1)) + sd_f1 (r0 ^^^ K (2 * i)) (r1 ^^^ K (2 * i + 1)))) (l1 ^^^ sd_f2 (r0 ^^^ K (2 * i)) (r1 ^^^ K (2 * i + 1))))), (10, .long (sd_jn r0 r1)), (0, .ref h0), (1, .ref x), (2, .int 0), (3, .ref y), (4, .int 0)]) hx hb dX2_processBlock_133 hl (k := 8) rfl (nI_1 i) (by decide) rfl (fun ls hl => ?_)
    refine lv_goto (tgt := 87) hx hb dX2_processBlock_136 (by decide) ?_
    exact ih (i + 1) r0 r1 (l0 ^^^ (sd_f2 (r0 ^^^ K (2 * i)) (r1 ^^^ K (2 * i + 1)) + sd_f1 (r0 ^^^ K (2 * i)) (r1 ^^^ K (2 * i + 1)))) (l1 ^^^ sd_f2 (r0 ^^^ K (2 * i)) (r1 ^^^ K (2 * i + 1))) ls (by omega) hq1 (lv_sub hl [4, 5, 6, 7, 8, 1, 2, 0] rfl)
end SD_lp_enc
section SD_lp_dec
variable {p : Program} {l : Launch} {e : Env} {R : Room} {s : State} {m : MethodId} {args : Array Value} {below : List Frame} {meth : Method} {c : Code} {H : Heap} {locs : List Loc} {cells slots : Nat} {Q : State → Prop} {dC : Nat → ClassId} {dI : Nat → Nat → Nat} {cB cI : ClassId} {A : Nat → Prop}
set_option maxHeartbeats 4000000 in
set_option maxRecDepth 100000 in
/-- processBlock's loop -/
theorem lp_dec {K f g : Nat → Int32} {w4 : Int32 × Int32 × Int32 × Int32} {b : Int32} {h0 k x y : Nat} (hbb : b = 0) (hx : p.tables.exec = Jvm.exec) (hb : c.code = cX2_processBlock) (hml : c.maxLocals = 12) (hown : s.vm.findClass RX2 = some m.cls) (hts : ∀ w ∈ lw_all, w.before args s = true) (hK : va_K (dC, dI) sd_cl (sd_ty cB cI) s) (hV : sd_V A s) (hS : va_S A s.heap H locs) (hP : va_P (dC, dI) sd_cl [(h0, .inr (2, [.int 16, .ref k, .int b])), (k, .inl (cI, 32, .inl K)), (x, .inl (cB, 16, .inl f)), (y, .inl (cB, 16, .inl g))] H)
    (kk : ∀ (l0 l1 r0 r1 : Int32) (ls : Array Slot), sd_rs K (sd_or b) w4 16 = (l0, l1, r0, r1) → lv_has ls 12 [(0, .ref h0), (1, .ref x), (2, .int 0), (3, .ref y), (4, .int 0), (5, .long (sd_jn l0 l1)), (7, .long (sd_jn r0 r1)), (9, .int (nI 0 - 1))] → W p l e ({ frames := 4, cells := 0, slots := 0, locals := 97 } : Room) s m args below meth c H locs 0 0 Q (F0 m 196 ls [])) :
    ∀ (n i : Nat) (l0 l1 r0 r1 : Int32) (ls : Array Slot), i + n = 16 → sd_rs K (sd_or b) w4 i = (l0, l1, r0, r1) → lv_has ls 12 [(0, .ref h0), (1, .ref x), (2, .int 0), (3, .ref y), (4, .int 0), (5, .long (sd_jn l0 l1)), (7, .long (sd_jn r0 r1)), (9, .int (nI n - 1))] → W p l e ({ frames := 4, cells := 0, slots := 0, locals := 97 } : Room) s m args below meth c H locs 0 0 Q (F0 m 146 ls []) := by
  intro n
  induction n with
  | zero =>
    intro i l0 l1 r0 r1 ls hi hq hl
    obtain rfl : i = 16 := by omega
    refine lv_iload hx hb dX2_processBlock_146 (lv_at hl 7 rfl) ?_
    exact lv_if_lt (tgt := 196) hx hb dX2_processBlock_148 (by decide) (fun _ => kk l0 l1 r0 r1 ls hq hl) (fun h => absurd (by decide) h)
  | succ n ih =>
    intro i l0 l1 r0 r1 ls hi hq hl
    rw [nI_pred] at hl
    refine lv_iload hx hb dX2_processBlock_146 (lv_at hl 7 rfl) ?_
    refine lv_if_lt (tgt := 196) hx hb dX2_processBlock_148 (by decide) (fun h => absurd h (nI_pos (by omega))) (fun _ => ?_)
    have hor : sd_or b i = n := (if_pos hbb).trans (by omega)
    have hq1 := sd_rs_s hq
    rw [hor] at hq1
    refine lv_lload hx hb dX2_processBlock_151 (lv_at hl 6 rfl) ?_
    refine lv_lstore (lv' := [(10, .long (sd_jn r0 r1)), (0, .ref h0), (1, .ref x), (2, .int 0), (3, .ref y), (4, .int 0), (5, .long (sd_jn l0 l1)), (7, .long (sd_jn r0 r1)), (9, .int (nI n))]) hx hb dX2_processBlock_153 hl (by decide) rfl (fun ls hl => ?_)
    refine lv_lload hx hb dX2_processBlock_155 (lv_at hl 6 rfl) ?_
    refine lv_aload_n hx hb dX2_processBlock_157 rfl (lv_at hl 1 rfl) ?_
    refine lv_aload_n hx hb dX2_processBlock_158 rfl (lv_at hl 1 rfl) ?_
    refine va_get (D := (dC, dI)) (ci := 2) (v := .ref k) (C := RX2) (T := TX2) (N := 3) hx hb hts in_X2 hown hK hP 0 rfl rfl 1 (by decide) (hts _ q77) (fun _ h9 => h9) rfl dX2_processBlock_159 ?_
    refine lv_iconst (v := 2) hx hb dX2_processBlock_162 (by decide) ?_
    refine lv_iload hx hb dX2_processBlock_163 (lv_at hl 8 rfl) ?_
    refine lv_imul hx hb dX2_processBlock_165 ?_
    refine sd_iald hx hb hK hP 1 1 rfl rfl (k := 2 * n) (sd_m2 n) (by omega) (by decide) dX2_processBlock_166 ?_
    refine lv_aload_n hx hb dX2_processBlock_167 rfl (lv_at hl 1 rfl) ?_
    refine va_get (D := (dC, dI)) (ci := 2) (v := .ref k) (C := RX2) (T := TX2) (N := 3) hx hb hts in_X2 hown hK hP 0 rfl rfl 1 (by decide) (hts _ q77) (fun _ h9 => h9) rfl dX2_processBlock_168 ?_
    refine lv_iconst (v := 2) hx hb dX2_processBlock_171 (by decide) ?_
    refine lv_iload hx hb dX2_processBlock_172 (lv_at hl 8 rfl) ?_
    refine lv_imul hx hb dX2_processBlock_174 ?_
    refine lv_iconst (v := 1) hx hb dX2_processBlock_175 (by decide) ?_
    refine lv_iadd hx hb dX2_processBlock_176 ?_
    refine sd_iald hx hb hK hP 1 1 rfl rfl (k := 2 * n + 1) (sd_m21 n) (by omega) (by decide) dX2_processBlock_177 ?_
    refine lv_lload hx hb dX2_processBlock_178 (lv_at hl 7 rfl) ?_
    refine vp_callSl (va_runV (As := [.int (K (2 * n)), .int (K (2 * n + 1)), .long (sd_jn r0 r1)]) (rest := [.long (sd_jn l0 l1)]) ⟨hx, hb, hml, hown, hts⟩ (mt_F l dC dI cB cI h0 [.int 16, .ref k, .int b] (K (2 * n)) (K (2 * n + 1)) r0 r1) (cwV 3 hts (lw_V q289 q291 qs9 q18 q292) rfl rfl rfl (by decide +kernel) ⟨Nat.le_of_ble_eq_true rfl, Nat.le_of_ble_eq_true rfl⟩) (sd_purV (va_recv hK hP (ci := 2) (q0 := 0) rfl rfl) hK hV hS (hP.sub [0] rfl)) rfl rfl hl.1 rfl (lv_room (Nat.le_of_ble_eq_true rfl)) dX2_processBlock_180 ⟨Nat.le_of_ble_eq_true rfl, Nat.le_of_ble_eq_true rfl⟩).run (fun z hz => ?_)
    refine lv_lxor hx hb dX2_processBlock_183 ?_
    refine sd_topL (y := (sd_jn (l0 ^^^ (sd_f2 (r0 ^^^ K (2 * n)) (r1 ^^^ K (2 * n + 1)) + sd_f1 (r0 ^^^ K (2 * n)) (r1 ^^^ K (2 * n + 1)))) (l1 ^^^ sd_f2 (r0 ^^^ K (2 * n)) (r1 ^^^ K (2 * n + 1))))) (by rw [hz]; exact sd_jn_xor _ _ _ _) ?_
    refine lv_lstore (lv' := [(7, .long (sd_jn (l0 ^^^ (sd_f2 (r0 ^^^ K (2 * n)) (r1 ^^^ K (2 * n + 1)) + sd_f1 (r0 ^^^ K (2 * n)) (r1 ^^^ K (2 * n + 1)))) (l1 ^^^ sd_f2 (r0 ^^^ K (2 * n)) (r1 ^^^ K (2 * n + 1))))), (10, .long (sd_jn r0 r1)), (0, .ref h0), (1, .ref x), (2, .int 0), (3, .ref y), (4, .int 0), (5, .long (sd_jn l0 l1)), (9, .int (nI n))]) hx hb dX2_processBlock_184 hl (by decide) rfl (fun ls hl => ?_)
    refine lv_lload hx hb dX2_processBlock_186 (lv_at hl 1 rfl) ?_
    refine lv_lstore (lv' := [(5, .long (sd_jn r0 r1)), (7, .long (sd_jn (l0 ^^^ (sd_f2 (r0 ^^^ K (2 * n)) (r1 ^^^ K (2 * n + 1)) + sd_f1 (r0 ^^^ K (2 * n)) (r1 ^^^ K (2 * n + 1)))) (l1 ^^^ sd_f2 (r0 ^^^ K (2 * n)) (r1 ^^^ K (2 * n + 1))))), (10, .long (sd_jn r0 r1)), (0, .ref h0), (1, .ref x), (2, .int 0), (3, .ref y), (4, .int 0), (9, .int (nI n))]) hx hb dX2_processBlock_188 hl (by decide) rfl (fun ls hl => ?_)
    refine lv_iinc (v := (nI n - 1)) (lv' := [(9, .int (nI n - 1)), (5, .long (sd_jn r0 r1)), (7, .long (sd_jn (l0 ^^^ (sd_f2 (r0 ^^^ K (2 * n)) (r1 ^^^ K (2 * n + 1)) + sd_f1 (r0 ^^^ K (2 * n)) (r1 ^^^ K (2 * n + 1)))) (l1 ^^^ sd_f2 (r0 ^^^ K (2 * n)) (r1 ^^^ K (2 * n + 1))))), (10, .long (sd_jn r0 r1)), (0, .ref h0), (1, .ref x), (2, .int 0), (3, .ref y), (4, .int 0)]) hx hb dX2_processBlock_190 hl (k := 8) rfl (by rw [Int32.sub_eq_add_neg]; rfl) (by decide) rfl (fun ls hl => ?_)
    refine lv_goto (tgt := 146) hx hb dX2_processBlock_193 (by decide) ?_
    exact ih (i + 1) r0 r1 (l0 ^^^ (sd_f2 (r0 ^^^ K (2 * n)) (r1 ^^^ K (2 * n + 1)) + sd_f1 (r0 ^^^ K (2 * n)) (r1 ^^^ K (2 * n + 1)))) (l1 ^^^ sd_f2 (r0 ^^^ K (2 * n)) (r1 ^^^ K (2 * n + 1))) ls (by omega) hq1 (lv_sub hl [4, 5, 6, 7, 8, 1, 2, 0] rfl)
end SD_lp_dec
theorem sd_pBend {q : Int32 × Int32 × Int32 × Int32} {l0 l1 r0 r1 : Int32} {g u1 u2 : Nat → Int32} (hq : q = (l0, l1, r0, r1)) (h1 : ∀ j, u1 j = if 0 ≤ j ∧ j < 0 + 8 then sd_lbr (sd_jn r0 r1) (j - 0) else g j) (h2 : ∀ j, u2 j = if 8 ≤ j ∧ j < 8 + 8 then sd_lbr (sd_jn l0 l1) (j - 8) else u1 j) : ∀ j, j < 16 → u2 j &&& 255 = if j < 4 then sd_by q.2.2.1 j else if j < 8 then sd_by q.2.2.2 (j - 4) else if j < 12 then sd_by q.1 (j - 8) else sd_by q.2.1 (j - 12) := by
  intro j hj
  subst hq
  rw [h2 j]
  rcases Nat.lt_or_ge j 8 with h | h
  · rw [if_neg (by omega), h1 j, if_pos (by omega)]
    rw [show j - 0 = j from rfl]
    refine (sd_lb r0 r1 h).trans ?_
    by_cases g1 : j < 4
    · rw [if_pos g1, if_pos g1]
    · rw [if_neg g1, if_neg g1, if_pos h]
  · rw [if_pos (by omega), if_neg (show ¬ j < 4 by omega), if_neg (show ¬ j < 8 by omega)]
    refine (sd_lb l0 l1 (show j - 8 < 8 by omega)).trans ?_
    by_cases g1 : j < 12
    · rw [if_pos g1, if_pos (by omega)]
    · rw [if_neg g1, if_neg (by omega), show j - 8 - 4 = j - 12 by omega]
set_option maxHeartbeats 4000000 in
set_option maxRecDepth 100000 in
/-- processBlock -/
theorem mt_pB (l : Launch) (dC : Nat → ClassId) (dI : Nat → Nat → Nat) (cB cI : ClassId) (h0 k x y : Nat) (b : Int32) (K f g : Nat → Int32) (sz : Nat) : Met l yX2_processBlock (ws_ yX2_processBlock cX2_processBlock 12 (some .int)) ({ frames := 4, cells := 0, slots := 0, locals := 97 } : Room) (va_Pc [.ref h0, .ref x, .int 0, .ref y, .int 0] (sd_pre (dC, dI) cB cI [(h0, .inr (2, [.int 16, .ref k, .int b])), (k, .inl (cI, 32, .inl K)), (x, .inl (cB, 16, .inl f)), (y, .inl (cB, 16, .inl g))] sz)) (va_Qi (fun (r : Int32) (u : Nat → Int32) => (∀ j, j < 16 → u j &&& 255 = if j < 4 then sd_by (sd_rs K (sd_or b) ((sd_w4 (fun j => f j &&& 255) 0), (sd_w4 (fun j => f j &&& 255) 4), (sd_w4 (fun j => f j &&& 255) 8), (sd_w4 (fun j => f j &&& 255) 12)) 16).2.2.1 j else if j < 8 then sd_by (sd_rs K (sd_or b) ((sd_w4 (fun j => f j &&& 255) 0), (sd_w4 (fun j => f j &&& 255) 4), (sd_w4 (fun j => f j &&& 255) 8), (sd_w4 (fun j => f j &&& 255) 12)) 16).2.2.2 (j - 4) else if j < 12 then sd_by (sd_rs K (sd_or b) ((sd_w4 (fun j => f j &&& 255) 0), (sd_w4 (fun j => f j &&& 255) 4), (sd_w4 (fun j => f j &&& 255) 8), (sd_w4 (fun j => f j &&& 255) 12)) 16).1 (j - 8) else sd_by (sd_rs K (sd_or b) ((sd_w4 (fun j => f j &&& 255) 0), (sd_w4 (fun j => f j &&& 255) 4), (sd_w4 (fun j => f j &&& 255) 8), (sd_w4 (fun j => f j &&& 255) 12)) 16).2.1 (j - 12))) (fun u t => va_P (dC, dI) sd_cl [(h0, .inr (2, [.int 16, .ref k, .int b])), (k, .inl (cI, 32, .inl K)), (x, .inl (cB, 16, .inl f)), (y, .inl (cB, 16, .inl u))] t.heap ∧ va_D (va_A [(h0, .inr (2, [.int 16, .ref k, .int b])), (k, .inl (cI, 32, .inl K)), (x, .inl (cB, 16, .inl f)), (y, .inl (cB, 16, .inl g))] sz) [(h0, .inr (2, [.int 16, .ref k, .int b])), (k, .inl (cI, 32, .inl K)), (x, .inl (cB, 16, .inl f)), (y, .inl (cB, 16, .inl u))]) (va_A [(h0, .inr (2, [.int 16, .ref k, .int b])), (k, .inl (cI, 32, .inl K)), (x, .inl (cB, 16, .inl f)), (y, .inl (cB, 16, .inl g))] sz)) 0 0 (va_A [(h0, .inr (2, [.int 16, .ref k, .int b])), (k, .inl (cI, 32, .inl K)), (x, .inl (cB, 16, .inl f)), (y, .inl (cB, 16, .inl g))] sz) := by
  refine sd_metW (Qc := fun A => va_Qi (fun (r : Int32) (u : Nat → Int32) => (∀ j, j < 16 → u j &&& 255 = if j < 4 then sd_by (sd_rs K (sd_or b) ((sd_w4 (fun j => f j &&& 255) 0), (sd_w4 (fun j => f j &&& 255) 4), (sd_w4 (fun j => f j &&& 255) 8), (sd_w4 (fun j => f j &&& 255) 12)) 16).2.2.1 j else if j < 8 then sd_by (sd_rs K (sd_or b) ((sd_w4 (fun j => f j &&& 255) 0), (sd_w4 (fun j => f j &&& 255) 4), (sd_w4 (fun j => f j &&& 255) 8), (sd_w4 (fun j => f j &&& 255) 12)) 16).2.2.2 (j - 4) else if j < 12 then sd_by (sd_rs K (sd_or b) ((sd_w4 (fun j => f j &&& 255) 0), (sd_w4 (fun j => f j &&& 255) 4), (sd_w4 (fun j => f j &&& 255) 8), (sd_w4 (fun j => f j &&& 255) 12)) 16).1 (j - 8) else sd_by (sd_rs K (sd_or b) ((sd_w4 (fun j => f j &&& 255) 0), (sd_w4 (fun j => f j &&& 255) 4), (sd_w4 (fun j => f j &&& 255) 8), (sd_w4 (fun j => f j &&& 255) 12)) 16).2.1 (j - 12))) (fun u t => va_P (dC, dI) sd_cl [(h0, .inr (2, [.int 16, .ref k, .int b])), (k, .inl (cI, 32, .inl K)), (x, .inl (cB, 16, .inl f)), (y, .inl (cB, 16, .inl u))] t.heap ∧ va_D A [(h0, .inr (2, [.int 16, .ref k, .int b])), (k, .inl (cI, 32, .inl K)), (x, .inl (cB, 16, .inl f)), (y, .inl (cB, 16, .inl u))]) A) (by decide) (Nat.le_of_ble_eq_true rfl) ?_
  intro p e s m below meth c ls A hx hb hr hml hts hown hlocks hname hP hK hD hV hA hS hl
  have hown : s.vm.findClass RX2 = some m.cls := hown
  have hl : lv_has ls 12 [(0, .ref h0), (1, .ref x), (2, .int 0), (3, .ref y), (4, .int 0)] := hl
  refine lv_aload_n hx hb dX2_processBlock_0 rfl (lv_at hl 0 rfl) ?_
  refine va_get (D := (dC, dI)) (ci := 2) (v := .ref k) (C := RX2) (T := TX2) (N := 3) hx hb hts in_X2 hown hK hP 0 rfl rfl 1 (by decide) (hts _ q77) (fun _ h9 => h9) rfl dX2_processBlock_1 ?_
  refine lv_ifnonnull (tgt := 17) hx hb dX2_processBlock_4 (by decide) ?_
  refine lv_iload_n hx hb dX2_processBlock_17 rfl (lv_at hl 2 rfl) ?_
  refine lv_bipush (v := 16) hx hb dX2_processBlock_18 (by decide) ?_
  refine lv_iadd hx hb dX2_processBlock_20 ?_
  refine lv_aload_n hx hb dX2_processBlock_21 rfl (lv_at hl 1 rfl) ?_
  refine va_alen (v := 16) hx hb hK hP 2 0 rfl rfl rfl dX2_processBlock_22 ?_
  refine lv_icmp_le (tgt := 36) hx hb dX2_processBlock_23 (by decide) (fun _ => ?_) (fun h => absurd (by decide) h)
  refine lv_iload hx hb dX2_processBlock_36 (lv_at hl 4 rfl) ?_
  refine lv_bipush (v := 16) hx hb dX2_processBlock_38 (by decide) ?_
  refine lv_iadd hx hb dX2_processBlock_40 ?_
  refine lv_aload_n hx hb dX2_processBlock_41 rfl (lv_at hl 3 rfl) ?_
  refine va_alen (v := 16) hx hb hK hP 3 0 rfl rfl rfl dX2_processBlock_42 ?_
  refine lv_icmp_le (tgt := 56) hx hb dX2_processBlock_43 (by decide) (fun _ => ?_) (fun h => absurd (by decide) h)
  refine lv_aload_n hx hb dX2_processBlock_56 rfl (lv_at hl 0 rfl) ?_
  refine lv_aload_n hx hb dX2_processBlock_57 rfl (lv_at hl 1 rfl) ?_
  refine lv_iload_n hx hb dX2_processBlock_58 rfl (lv_at hl 2 rfl) ?_
  refine lv_iconst (v := 0) hx hb dX2_processBlock_59 (by decide) ?_
  refine lv_iadd hx hb dX2_processBlock_60 ?_
  refine sd_top (y := (nI 0)) (by decide) ?_
  refine vp_callSl (va_runV (As := [.ref x, .int (nI 0)]) (rest := []) ⟨hx, hb, hml, hown, hts⟩ (mt_b2l l dC dI cB cI h0 x 0 (by decide) f) (cwV 2 hts (lw_V q192 q194 qs3 q18 q195) rfl rfl rfl (by decide +kernel) ⟨Nat.le_of_ble_eq_true rfl, Nat.le_of_ble_eq_true rfl⟩) (sd_purV (va_recv hK hP (ci := 2) (q0 := 0) rfl rfl) hK hV hS (hP.sub [2] rfl)) rfl rfl hl.1 rfl (lv_room (Nat.le_of_ble_eq_true rfl)) dX2_processBlock_61 ⟨Nat.le_of_ble_eq_true rfl, Nat.le_of_ble_eq_true rfl⟩).run (fun v1 hv1 => ?_)
  refine sd_topL (y := (sd_jn (sd_w4 (fun j => f j &&& 255) 0) (sd_w4 (fun j => f j &&& 255) 4))) (hv1.trans (sd_bw8 (fun _ _ => rfl) (n := 16) (by decide))) ?_
  refine lv_lstore (lv' := [(5, .long (sd_jn (sd_w4 (fun j => f j &&& 255) 0) (sd_w4 (fun j => f j &&& 255) 4))), (0, .ref h0), (1, .ref x), (2, .int 0), (3, .ref y), (4, .int 0)]) hx hb dX2_processBlock_64 hl (by decide) rfl (fun ls hl => ?_)
  refine lv_aload_n hx hb dX2_processBlock_66 rfl (lv_at hl 1 rfl) ?_
  refine lv_aload_n hx hb dX2_processBlock_67 rfl (lv_at hl 2 rfl) ?_
  refine lv_iload_n hx hb dX2_processBlock_68 rfl (lv_at hl 3 rfl) ?_
  refine lv_bipush (v := 8) hx hb dX2_processBlock_69 (by decide) ?_
  refine lv_iadd hx hb dX2_processBlock_71 ?_
  refine sd_top (y := (nI 8)) (by decide) ?_
  refine vp_callSl (va_runV (As := [.ref x, .int (nI 8)]) (rest := []) ⟨hx, hb, hml, hown, hts⟩ (mt_b2l l dC dI cB cI h0 x 8 (by decide) f) (cwV 2 hts (lw_V q192 q194 qs3 q18 q195) rfl rfl rfl (by decide +kernel) ⟨Nat.le_of_ble_eq_true rfl, Nat.le_of_ble_eq_true rfl⟩) (sd_purV (va_recv hK hP (ci := 2) (q0 := 0) rfl rfl) hK hV hS (hP.sub [2] rfl)) rfl rfl hl.1 rfl (lv_room (Nat.le_of_ble_eq_true rfl)) dX2_processBlock_72 ⟨Nat.le_of_ble_eq_true rfl, Nat.le_of_ble_eq_true rfl⟩).run (fun v2 hv2 => ?_)
  refine sd_topL (y := (sd_jn (sd_w4 (fun j => f j &&& 255) 8) (sd_w4 (fun j => f j &&& 255) 12))) (hv2.trans (sd_bw8 (fun _ _ => rfl) (n := 16) (by decide))) ?_
  have tail : ∀ (l0 l1 r0 r1 z : Int32) (ls : Array Slot), sd_rs K (sd_or b) ((sd_w4 (fun j => f j &&& 255) 0), (sd_w4 (fun j => f j &&& 255) 4), (sd_w4 (fun j => f j &&& 255) 8), (sd_w4 (fun j => f j &&& 255) 12)) 16 = (l0, l1, r0, r1) → lv_has ls 12 [(0, .ref h0), (1, .ref x), (2, .int 0), (3, .ref y), (4, .int 0), (5, .long (sd_jn l0 l1)), (7, .long (sd_jn r0 r1)), (9, .int z)] → W p l e ({ frames := 4, cells := 0, slots := 0, locals := 97 } : Room) s m ([.ref h0, .ref x, .int 0, .ref y, .int 0] : List Value).toArray below meth c s.heap [] 0 0 (MQ below ((fun A => va_Qi (fun (r : Int32) (u : Nat → Int32) => (∀ j, j < 16 → u j &&& 255 = if j < 4 then sd_by (sd_rs K (sd_or b) ((sd_w4 (fun j => f j &&& 255) 0), (sd_w4 (fun j => f j &&& 255) 4), (sd_w4 (fun j => f j &&& 255) 8), (sd_w4 (fun j => f j &&& 255) 12)) 16).2.2.1 j else if j < 8 then sd_by (sd_rs K (sd_or b) ((sd_w4 (fun j => f j &&& 255) 0), (sd_w4 (fun j => f j &&& 255) 4), (sd_w4 (fun j => f j &&& 255) 8), (sd_w4 (fun j => f j &&& 255) 12)) 16).2.2.2 (j - 4) else if j < 12 then sd_by (sd_rs K (sd_or b) ((sd_w4 (fun j => f j &&& 255) 0), (sd_w4 (fun j => f j &&& 255) 4), (sd_w4 (fun j => f j &&& 255) 8), (sd_w4 (fun j => f j &&& 255) 12)) 16).1 (j - 8) else sd_by (sd_rs K (sd_or b) ((sd_w4 (fun j => f j &&& 255) 0), (sd_w4 (fun j => f j &&& 255) 4), (sd_w4 (fun j => f j &&& 255) 8), (sd_w4 (fun j => f j &&& 255) 12)) 16).2.1 (j - 12))) (fun u t => va_P (dC, dI) sd_cl [(h0, .inr (2, [.int 16, .ref k, .int b])), (k, .inl (cI, 32, .inl K)), (x, .inl (cB, 16, .inl f)), (y, .inl (cB, 16, .inl u))] t.heap ∧ va_D A [(h0, .inr (2, [.int 16, .ref k, .int b])), (k, .inl (cI, 32, .inl K)), (x, .inl (cB, 16, .inl f)), (y, .inl (cB, 16, .inl u))]) A) A) ([.ref h0, .ref x, .int 0, .ref y, .int 0] : List Value).toArray s 0 0 A) (F0 m 196 ls []) := by
    intro l0 l1 r0 r1 z ls hq hl
    refine lv_aload_n hx hb dX2_processBlock_196 rfl (lv_at hl 0 rfl) ?_
    refine lv_aload_n hx hb dX2_processBlock_197 rfl (lv_at hl 3 rfl) ?_
    refine lv_iload hx hb dX2_processBlock_198 (lv_at hl 4 rfl) ?_
    refine lv_iconst (v := 0) hx hb dX2_processBlock_200 (by decide) ?_
    refine lv_iadd hx hb dX2_processBlock_201 ?_
    refine sd_top (y := (nI 0)) (by decide) ?_
    refine lv_lload hx hb dX2_processBlock_202 (lv_at hl 6 rfl) ?_
    have hPc := hP.sub (ws' := [(y, .inl (cB, 16, .inl g))]) [3] rfl
    have hDc := hD.sub (ws' := [(y, .inl (cB, 16, .inl g))]) [3] (by decide) rfl
    have hFc := va_free (wc := [(y, .inl (cB, 16, .inl g))]) hD hS hA [3] rfl
    refine va_callv (va_runV (As := [.ref y, .int (nI 0), .long (sd_jn r0 r1)]) (rest := []) ⟨hx, hb, hml, hown, hts⟩ (mt_l2b l dC dI cB cI h0 y 0 (by decide) g (sd_jn r0 r1) s.heap.size) (cwV 3 hts (lw_V q302 q304 qs12 q18 q305) rfl rfl rfl (by decide +kernel) ⟨Nat.le_of_ble_eq_true rfl, Nat.le_of_ble_eq_true rfl⟩) (sd_preV (va_recv hK hP (ci := 2) (q0 := 0) rfl rfl) hK hV hS hPc hDc hFc) rfl rfl hl.1 rfl (lv_room (Nat.le_of_ble_eq_true rfl)) dX2_processBlock_204 ⟨Nat.le_of_ble_eq_true rfl, Nat.le_of_ble_eq_true rfl⟩) hS (fun q _ h => hFc q h) hFc (fun u1 t H locs ht hvm hu1 hB hz1 hk1 hS => ?_)
    obtain ⟨hP1, hD1⟩ := hB
    rw [ht] at hP1
    obtain ⟨hP, hD⟩ := va_join (wr := [(h0, .inr (2, [.int 16, .ref k, .int b])), (k, .inl (cI, 32, .inl K)), (x, .inl (cB, 16, .inl f))]) (w1 := [(y, .inl (cB, 16, .inl u1))]) hP hD [3] [0, 1, 2] rfl rfl (by decide) (by decide) hk1 hFc hP1 hD1
    have hP : va_P (dC, dI) sd_cl [(h0, .inr (2, [.int 16, .ref k, .int b])), (k, .inl (cI, 32, .inl K)), (x, .inl (cB, 16, .inl f)), (y, .inl (cB, 16, .inl u1))] H := hP
    have hD : va_D A [(h0, .inr (2, [.int 16, .ref k, .int b])), (k, .inl (cI, 32, .inl K)), (x, .inl (cB, 16, .inl f)), (y, .inl (cB, 16, .inl u1))] := hD
    refine lv_aload_n hx hb dX2_processBlock_207 rfl (lv_at hl 0 rfl) ?_
    refine lv_aload_n hx hb dX2_processBlock_208 rfl (lv_at hl 3 rfl) ?_
    refine lv_iload hx hb dX2_processBlock_209 (lv_at hl 4 rfl) ?_
    refine lv_bipush (v := 8) hx hb dX2_processBlock_211 (by decide) ?_
    refine lv_iadd hx hb dX2_processBlock_213 ?_
    refine sd_top (y := (nI 8)) (by decide) ?_
    refine lv_lload hx hb dX2_processBlock_214 (lv_at hl 5 rfl) ?_
    have hPc := hP.sub (ws' := [(y, .inl (cB, 16, .inl u1))]) [3] rfl
    have hDc := hD.sub (ws' := [(y, .inl (cB, 16, .inl u1))]) [3] (by decide) rfl
    have hFc := va_free (wc := [(y, .inl (cB, 16, .inl u1))]) hD hS hA [3] rfl
    refine va_callv (va_runV (As := [.ref y, .int (nI 8), .long (sd_jn l0 l1)]) (rest := []) ⟨hx, hb, hml, hown, hts⟩ (mt_l2b l dC dI cB cI h0 y 8 (by decide) u1 (sd_jn l0 l1) H.size) (cwV 3 hts (lw_V q302 q304 qs12 q18 q305) rfl rfl rfl (by decide +kernel) ⟨Nat.le_of_ble_eq_true rfl, Nat.le_of_ble_eq_true rfl⟩) (sd_preV (va_recv hK hP (ci := 2) (q0 := 0) rfl rfl) hK hV hS hPc hDc hFc) rfl rfl hl.1 rfl (lv_room (Nat.le_of_ble_eq_true rfl)) dX2_processBlock_216 ⟨Nat.le_of_ble_eq_true rfl, Nat.le_of_ble_eq_true rfl⟩) hS (fun q _ h => hFc q h) hFc (fun u2 t H locs ht hvm hu2 hB hz1 hk1 hS => ?_)
    obtain ⟨hP1, hD1⟩ := hB
    rw [ht] at hP1
    obtain ⟨hP, hD⟩ := va_join (wr := [(h0, .inr (2, [.int 16, .ref k, .int b])), (k, .inl (cI, 32, .inl K)), (x, .inl (cB, 16, .inl f))]) (w1 := [(y, .inl (cB, 16, .inl u2))]) hP hD [3] [0, 1, 2] rfl rfl (by decide) (by decide) hk1 hFc hP1 hD1
    have hP : va_P (dC, dI) sd_cl [(h0, .inr (2, [.int 16, .ref k, .int b])), (k, .inl (cI, 32, .inl K)), (x, .inl (cB, 16, .inl f)), (y, .inl (cB, 16, .inl u2))] H := hP
    have hD : va_D A [(h0, .inr (2, [.int 16, .ref k, .int b])), (k, .inl (cI, 32, .inl K)), (x, .inl (cB, 16, .inl f)), (y, .inl (cB, 16, .inl u2))] := hD
    refine lv_bipush (v := 16) hx hb dX2_processBlock_219 (by decide) ?_
    have hfin := sd_pBend hq hu1 hu2
    have hP := hP.sub (ws' := [(h0, .inr (2, [.int 16, .ref k, .int b])), (k, .inl (cI, 32, .inl K)), (x, .inl (cB, 16, .inl f)), (y, .inl (cB, 16, .inl u2))]) [0, 1, 2, 3] rfl
    have hD := hD.sub (ws' := [(h0, .inr (2, [.int 16, .ref k, .int b])), (k, .inl (cI, 32, .inl K)), (x, .inl (cB, 16, .inl f)), (y, .inl (cB, 16, .inl u2))]) [0, 1, 2, 3] (by decide) rfl
    exact W.iret (v := 16) hx hb hr (fun t ht hW => ⟨⟨16, u2, rfl, hfin, by rw [ht]; exact hP, hD⟩, hS.F ht⟩) hS.2.2 dX2_processBlock_221
  refine lv_lstore (lv' := [(7, .long (sd_jn (sd_w4 (fun j => f j &&& 255) 8) (sd_w4 (fun j => f j &&& 255) 12))), (5, .long (sd_jn (sd_w4 (fun j => f j &&& 255) 0) (sd_w4 (fun j => f j &&& 255) 4))), (0, .ref h0), (1, .ref x), (2, .int 0), (3, .ref y), (4, .int 0)]) hx hb dX2_processBlock_75 hl (by decide) rfl (fun ls hl => ?_)
  refine lv_aload_n hx hb dX2_processBlock_77 rfl (lv_at hl 2 rfl) ?_
  refine va_get (D := (dC, dI)) (ci := 2) (v := .int b) (C := RX2) (T := TX2) (N := 3) hx hb hts in_X2 hown hK hP 0 rfl rfl 2 (by decide) (hts _ q78) (fun _ h9 => h9) rfl dX2_processBlock_78 ?_
  refine lv_if_eq (tgt := 142) hx hb dX2_processBlock_81 (by decide) (fun hbb => ?_) (fun hbb => ?_)
  · skip
    refine lv_bipush (v := 15) hx hb dX2_processBlock_142 (by decide) ?_
    refine lv_istore (lv' := [(9, .int 15), (7, .long (sd_jn (sd_w4 (fun j => f j &&& 255) 8) (sd_w4 (fun j => f j &&& 255) 12))), (5, .long (sd_jn (sd_w4 (fun j => f j &&& 255) 0) (sd_w4 (fun j => f j &&& 255) 4))), (0, .ref h0), (1, .ref x), (2, .int 0), (3, .ref y), (4, .int 0)]) hx hb dX2_processBlock_144 hl (by decide) rfl (fun ls hl => ?_)
    exact lp_dec (w4 := ((sd_w4 (fun j => f j &&& 255) 0), (sd_w4 (fun j => f j &&& 255) 4), (sd_w4 (fun j => f j &&& 255) 8), (sd_w4 (fun j => f j &&& 255) 12))) hbb hx hb hml hown hts hK hV hS hP (fun l0 l1 r0 r1 ls hq hl => tail l0 l1 r0 r1 _ ls hq hl) 16 0 (sd_w4 (fun j => f j &&& 255) 0) (sd_w4 (fun j => f j &&& 255) 4) (sd_w4 (fun j => f j &&& 255) 8) (sd_w4 (fun j => f j &&& 255) 12) ls rfl rfl (lv_sub hl [3, 4, 5, 6, 7, 2, 1, 0] rfl)
  · skip
    refine lv_iconst (v := 0) hx hb dX2_processBlock_84 (by decide) ?_
    refine lv_istore (lv' := [(9, .int 0), (7, .long (sd_jn (sd_w4 (fun j => f j &&& 255) 8) (sd_w4 (fun j => f j &&& 255) 12))), (5, .long (sd_jn (sd_w4 (fun j => f j &&& 255) 0) (sd_w4 (fun j => f j &&& 255) 4))), (0, .ref h0), (1, .ref x), (2, .int 0), (3, .ref y), (4, .int 0)]) hx hb dX2_processBlock_85 hl (by decide) rfl (fun ls hl => ?_)
    exact lp_enc (w4 := ((sd_w4 (fun j => f j &&& 255) 0), (sd_w4 (fun j => f j &&& 255) 4), (sd_w4 (fun j => f j &&& 255) 8), (sd_w4 (fun j => f j &&& 255) 12))) hbb hx hb hml hown hts hK hV hS hP (fun l0 l1 r0 r1 ls hq hl => tail l0 l1 r0 r1 _ ls hq hl) 16 0 (sd_w4 (fun j => f j &&& 255) 0) (sd_w4 (fun j => f j &&& 255) 4) (sd_w4 (fun j => f j &&& 255) 8) (sd_w4 (fun j => f j &&& 255) 12) ls rfl rfl (lv_sub hl [3, 4, 5, 6, 7, 2, 1, 0] rfl)
end
section
/-! ===== SeedDeskModel: words, bytes, g ===== -/
set_option maxHeartbeats 4000000 in
set_option maxRecDepth 100000 in
/-- four(from, o) -/
theorem mt_four (l : Launch) (dC : Nat → ClassId) (dI : Nat → Nat → Nat) (cB cI : ClassId) (a o N : Nat) (hN : N < 2 ^ 31) (ho : o + 4 ≤ N) (g : Nat → Int32) : Met l yX1_four (ws_ yX1_four cX1_four 2 (some .int)) ({ frames := 0, cells := 0, slots := 0, locals := 0 } : Room) (va_Pc [.ref a, .int (nI o)] (sd_pur (dC, dI) cB cI [(a, .inl (cI, N, .inl g))])) (vp_Si (fun r => r = sd_w4 g o)) 0 0 (fun _ => False) := by
  refine sd_met (by decide) (Nat.le_of_ble_eq_true rfl) ?_
  intro p e s m below meth c ls hx hb hr hml hts hown hlocks hname hB hl
  obtain ⟨hP, hK, hV⟩ := hB
  have hS : va_S (fun _ => False) s.heap s.heap [] := va_S.rf
  have hown : s.vm.findClass RX1 = some m.cls := hown
  have hl : lv_has ls 2 [(0, .ref a), (1, .int (nI o))] := hl
  refine lv_aload_n hx hb dX1_four_0 rfl (lv_at hl 0 rfl) ?_
  refine lv_iload_n hx hb dX1_four_1 rfl (lv_at hl 1 rfl) ?_
  refine sd_iald hx hb hK hP 0 1 rfl rfl (k := o) (rfl) (by omega) (hN) dX1_four_2 ?_
  refine lv_bipush (v := 24) hx hb dX1_four_3 (by decide) ?_
  refine lv_ishl hx hb dX1_four_5 ?_
  refine lv_aload_n hx hb dX1_four_6 rfl (lv_at hl 0 rfl) ?_
  refine lv_iload_n hx hb dX1_four_7 rfl (lv_at hl 1 rfl) ?_
  refine lv_iconst (v := 1) hx hb dX1_four_8 (by decide) ?_
  refine lv_iadd hx hb dX1_four_9 ?_
  refine sd_iald hx hb hK hP 0 1 rfl rfl (k := o + 1) (nI_add o 1) (by omega) (hN) dX1_four_10 ?_
  refine lv_bipush (v := 16) hx hb dX1_four_11 (by decide) ?_
  refine lv_ishl hx hb dX1_four_13 ?_
  refine lv_ior hx hb dX1_four_14 ?_
  refine lv_aload_n hx hb dX1_four_15 rfl (lv_at hl 0 rfl) ?_
  refine lv_iload_n hx hb dX1_four_16 rfl (lv_at hl 1 rfl) ?_
  refine lv_iconst (v := 2) hx hb dX1_four_17 (by decide) ?_
  refine lv_iadd hx hb dX1_four_18 ?_
  refine sd_iald hx hb hK hP 0 1 rfl rfl (k := o + 2) (nI_add o 2) (by omega) (hN) dX1_four_19 ?_
  refine lv_bipush (v := 8) hx hb dX1_four_20 (by decide) ?_
  refine lv_ishl hx hb dX1_four_22 ?_
  refine lv_ior hx hb dX1_four_23 ?_
  refine lv_aload_n hx hb dX1_four_24 rfl (lv_at hl 0 rfl) ?_
  refine lv_iload_n hx hb dX1_four_25 rfl (lv_at hl 1 rfl) ?_
  refine lv_iconst (v := 3) hx hb dX1_four_26 (by decide) ?_
  refine lv_iadd hx hb dX1_four_27 ?_
  refine sd_iald hx hb hK hP 0 1 rfl rfl (k := o + 3) (nI_add o 3) (by omega) (hN) dX1_four_28 ?_
  refine lv_ior hx hb dX1_four_29 ?_
  exact W.iret (v := (((((g o) <<< (24 &&& 31)) ||| ((g (o + 1)) <<< (16 &&& 31))) ||| ((g (o + 2)) <<< (8 &&& 31))) ||| (g (o + 3)))) hx hb hr (fun t ht hW => ⟨_, rfl, rfl, ht⟩) (fun q h => absurd h List.not_mem_nil) dX1_four_30
section SDM1
variable {p : Program} {l : Launch} {e : Env} {R : Room} {s : State} {m : MethodId} {args : Array Value} {below : List Frame} {meth : Method} {c : Code} {H : Heap} {locs : List Loc} {cells slots : Nat} {Q : State → Prop} {dC : Nat → ClassId} {dI : Nat → Nat → Nat} {cB cI : ClassId} {A : Nat → Prop}
set_option maxHeartbeats 4000000 in
set_option maxRecDepth 100000 in
/-- word's loop -/
theorem lp_word {f : Nat → Int32} {w : Int32} {a o N : Nat} (hN : N < 2 ^ 31) (ho : o + 4 ≤ N) (hx : p.tables.exec = Jvm.exec) (hb : c.code = cX1_word) (hK : va_K (dC, dI) sd_cl (sd_ty cB cI) s)
    (kk : ∀ (u : Nat → Int32) (H : Heap) (locs : List Loc) (ls : Array Slot), (∀ j, u j = if o ≤ j ∧ j < o + 4 then sd_by w (j - o) else f j) → va_P (dC, dI) sd_cl [(a, .inl (cI, N, .inl u))] H → va_D A [(a, .inl (cI, N, .inl u))] → va_S A s.heap H locs → lv_has ls 4 [(0, .ref a), (1, .int (nI o)), (2, .int w), (3, .int (nI 4))] → W p l e R s m args below meth c H locs cells slots Q (F0 m 31 ls [])) :
    ∀ (n i : Nat) (u : Nat → Int32) (H : Heap) (locs : List Loc) (ls : Array Slot), i + n = 4 → (∀ j, u j = if o ≤ j ∧ j < o + i then sd_by w (j - o) else f j) → va_P (dC, dI) sd_cl [(a, .inl (cI, N, .inl u))] H → va_D A [(a, .inl (cI, N, .inl u))] → va_S A s.heap H locs → lv_has ls 4 [(0, .ref a), (1, .int (nI o)), (2, .int w), (3, .int (nI i))] → W p l e R s m args below meth c H locs cells slots Q (F0 m 2 ls []) := by
  intro n
  induction n with
  | zero =>
    intro i u H locs ls hi hu hP hD hS hl
    obtain rfl : i = 4 := by omega
    refine lv_iload_n hx hb dX1_word_2 rfl (lv_at hl 3 rfl) ?_
    refine lv_iconst (v := 4) hx hb dX1_word_3 (by decide) ?_
    exact lv_icmp_ge (tgt := 31) hx hb dX1_word_4 (by decide) (fun _ => kk u H locs ls hu hP hD hS hl) (fun h => absurd (by decide) h)
  | succ n ih =>
    intro i u H locs ls hi hu hP hD hS hl
    refine lv_iload_n hx hb dX1_word_2 rfl (lv_at hl 3 rfl) ?_
    refine lv_iconst (v := 4) hx hb dX1_word_3 (by decide) ?_
    refine lv_icmp_ge (tgt := 31) hx hb dX1_word_4 (by decide) (fun h => absurd h (sd_g4 i (by omega))) (fun _ => ?_)
    refine lv_aload_n hx hb dX1_word_7 rfl (lv_at hl 0 rfl) ?_
    refine lv_iload_n hx hb dX1_word_8 rfl (lv_at hl 1 rfl) ?_
    refine lv_iload_n hx hb dX1_word_9 rfl (lv_at hl 3 rfl) ?_
    refine lv_iadd hx hb dX1_word_10 ?_
    refine lv_iload_n hx hb dX1_word_11 rfl (lv_at hl 2 rfl) ?_
    refine lv_bipush (v := 24) hx hb dX1_word_12 (by decide) ?_
    refine lv_bipush (v := 8) hx hb dX1_word_14 (by decide) ?_
    refine lv_iload_n hx hb dX1_word_16 rfl (lv_at hl 3 rfl) ?_
    refine lv_imul hx hb dX1_word_17 ?_
    refine lv_isub hx hb dX1_word_18 ?_
    refine lv_iushr (v := (sd_us w (24 - (8 * (nI i))))) hx hb dX1_word_19 rfl ?_
    refine lv_sipush (v := 255) hx hb dX1_word_20 (by decide) ?_
    refine lv_iand hx hb dX1_word_23 ?_
    refine sd_top (y := (sd_by w i)) (rfl) ?_
    refine sd_iast hx hb hK hP hD hS 0 1 rfl rfl (k := o + i) (nI_add o i) (by omega) (hN) dX1_word_24 (fun H locs hP hD hS => ?_)
    have hP : va_P (dC, dI) sd_cl [(a, .inl (cI, N, .inl (upd u (o + i) (sd_by w i))))] H := hP
    have hD : va_D A [(a, .inl (cI, N, .inl (upd u (o + i) (sd_by w i))))] := hD
    refine lv_iinc (v := (nI (i + 1))) (lv' := [(3, .int (nI (i + 1))), (0, .ref a), (1, .int (nI o)), (2, .int w)]) hx hb dX1_word_25 hl (k := 3) rfl (nI_1 i) (by decide) rfl (fun ls hl => ?_)
    refine lv_goto (tgt := 2) hx hb dX1_word_28 (by decide) ?_
    exact ih (i + 1) _ H locs ls (by omega) (sd_stp hu rfl) hP hD hS (lv_sub hl [1, 2, 3, 0] rfl)
end SDM1
set_option maxHeartbeats 4000000 in
set_option maxRecDepth 100000 in
/-- word(to, o, w) -/
theorem mt_word (l : Launch) (dC : Nat → ClassId) (dI : Nat → Nat → Nat) (cB cI : ClassId) (a o N : Nat) (hN : N < 2 ^ 31) (ho : o + 4 ≤ N) (f : Nat → Int32) (w : Int32) (sz : Nat) : Met l yX1_word (ws_ yX1_word cX1_word 4 none) ({ frames := 0, cells := 0, slots := 0, locals := 0 } : Room) (va_Pc [.ref a, .int (nI o), .int w] (sd_pre (dC, dI) cB cI [(a, .inl (cI, N, .inl f))] sz)) (va_Qv (fun u : Nat → Int32 => u = sd_put f o w) (fun u t => va_P (dC, dI) sd_cl [(a, .inl (cI, N, .inl u))] t.heap ∧ va_D (va_A [(a, .inl (cI, N, .inl f))] sz) [(a, .inl (cI, N, .inl u))]) (va_A [(a, .inl (cI, N, .inl f))] sz)) 0 0 (va_A [(a, .inl (cI, N, .inl f))] sz) := by
  refine sd_metW (Qc := fun A => va_Qv (fun u : Nat → Int32 => u = sd_put f o w) (fun u t => va_P (dC, dI) sd_cl [(a, .inl (cI, N, .inl u))] t.heap ∧ va_D A [(a, .inl (cI, N, .inl u))]) A) (by decide) (Nat.le_of_ble_eq_true rfl) ?_
  intro p e s m below meth c ls A hx hb hr hml hts hown hlocks hname hP hK hD hV hA hS hl
  have hown : s.vm.findClass RX1 = some m.cls := hown
  have hl : lv_has ls 4 [(0, .ref a), (1, .int (nI o)), (2, .int w)] := hl
  refine lv_iconst (v := 0) hx hb dX1_word_0 (by decide) ?_
  refine lv_istore_n (lv' := [(3, .int 0), (0, .ref a), (1, .int (nI o)), (2, .int w)]) hx hb dX1_word_1 rfl hl (by decide) rfl (fun ls hl => ?_)
  refine lp_word hN ho hx hb hK (fun u H locs ls hu hP hD hS hl => ?_) 4 0 f _ _ ls rfl sd_stp0 hP hD hS (lv_sub hl [1, 2, 3, 0] rfl)
  exact W.vret hx hb hr (fun t ht hW => ⟨⟨u, rfl, funext hu, by rw [ht]; exact hP, hD⟩, hS.F ht⟩) hS.2.2 dX1_word_31
section SDM2
variable {p : Program} {l : Launch} {e : Env} {R : Room} {s : State} {m : MethodId} {args : Array Value} {below : List Frame} {meth : Method} {c : Code} {H : Heap} {locs : List Loc} {cells slots : Nat} {Q : State → Prop} {dC : Nat → ClassId} {dI : Nat → Nat → Nat} {cB cI : ClassId} {A : Nat → Prop}
set_option maxHeartbeats 4000000 in
set_option maxRecDepth 100000 in
/-- g's inner loop -/
theorem lp_gi {bx : Nat → Int32} {x M : Int32} {q t : Nat} (ht : t < 4) (hx : p.tables.exec = Jvm.exec) (hb : c.code = cX1_g) (hown : s.vm.findClass RX1 = some m.cls) (hts : ∀ w ∈ lw_all, w.before args s = true) (hK : va_K (dC, dI) sd_cl (sd_ty cB cI) s) (hS : va_S A s.heap H locs) (hV : sd_V A s) (hP : va_P (dC, dI) sd_cl [(q, .inl (cI, 4, .inl bx))] H)
    (kk : ∀ ls : Array Slot, lv_has ls 6 [(0, .int x), (1, .ref q), (2, .int M), (3, .int (nI t)), (4, .int (sd_gz bx t 4)), (5, .int (nI 4))] → W p l e R s m args below meth c H locs cells slots Q (F0 m 104 ls [])) :
    ∀ (n i : Nat) (ls : Array Slot), i + n = 4 → lv_has ls 6 [(0, .int x), (1, .ref q), (2, .int M), (3, .int (nI t)), (4, .int (sd_gz bx t i)), (5, .int (nI i))] → W p l e R s m args below meth c H locs cells slots Q (F0 m 72 ls []) := by
  obtain ⟨-, -, ⟨-, -, ⟨tM, hZM, hTM⟩⟩, -⟩ := id hV
  intro n
  induction n with
  | zero =>
    intro i ls hi hl
    obtain rfl : i = 4 := by omega
    refine lv_iload hx hb dX1_g_72 (lv_at hl 5 rfl) ?_
    refine lv_iconst (v := 4) hx hb dX1_g_74 (by decide) ?_
    exact lv_icmp_ge (tgt := 104) hx hb dX1_g_75 (by decide) (fun _ => kk ls hl) (fun h => absurd (by decide) h)
  | succ n ih =>
    intro i ls hi hl
    refine lv_iload hx hb dX1_g_72 (lv_at hl 5 rfl) ?_
    refine lv_iconst (v := 4) hx hb dX1_g_74 (by decide) ?_
    refine lv_icmp_ge (tgt := 104) hx hb dX1_g_75 (by decide) (fun h => absurd h (sd_g4 i (by omega))) (fun _ => ?_)
    refine lv_iload hx hb dX1_g_78 (lv_at hl 4 rfl) ?_
    refine lv_aload_n hx hb dX1_g_80 rfl (lv_at hl 1 rfl) ?_
    refine lv_iload hx hb dX1_g_81 (lv_at hl 5 rfl) ?_
    refine sd_iald hx hb hK hP 0 1 rfl rfl (k := i) (rfl) (by omega) (by decide) dX1_g_83 ?_
    refine va_gets hx hb hZM hS hown (hts _ q368) (fun _ h9 => h9) dX1_g_84 ?_
    refine lv_iload_n hx hb dX1_g_87 rfl (lv_at hl 3 rfl) ?_
    refine lv_iload hx hb dX1_g_88 (lv_at hl 5 rfl) ?_
    refine lv_iadd hx hb dX1_g_90 ?_
    refine sd_top (y := (nI (t + i))) (nI_add t i) ?_
    refine lv_iconst (v := 4) hx hb dX1_g_91 (by decide) ?_
    refine lv_irem hx hb dX1_g_92 (by decide) ?_
    refine sd_top (y := (nI ((t + i) % 4))) (pk_rem (d := 4) (by omega) (by omega) (by omega)) ?_
    refine sd_tk hx hb hTM hS (k := (t + i) % 4) rfl (by omega) (by decide) dX1_g_93 ?_
    refine lv_iand hx hb dX1_g_94 ?_
    refine lv_ixor hx hb dX1_g_95 ?_
    refine sd_top (y := (sd_gz bx t (i + 1))) (rfl) ?_
    refine lv_istore (lv' := [(4, .int (sd_gz bx t (i + 1))), (0, .int x), (1, .ref q), (2, .int M), (3, .int (nI t)), (5, .int (nI i))]) hx hb dX1_g_96 hl (by decide) rfl (fun ls hl => ?_)
    refine lv_iinc (v := (nI (i + 1))) (lv' := [(5, .int (nI (i + 1))), (4, .int (sd_gz bx t (i + 1))), (0, .int x), (1, .ref q), (2, .int M), (3, .int (nI t))]) hx hb dX1_g_98 hl (k := 5) rfl (nI_1 i) (by decide) rfl (fun ls hl => ?_)
    refine lv_goto (tgt := 72) hx hb dX1_g_101 (by decide) ?_
    exact ih (i + 1) ls (by omega) (lv_sub hl [2, 3, 4, 5, 1, 0] rfl)
set_option maxHeartbeats 4000000 in
set_option maxRecDepth 100000 in
/-- g's outer loop -/
theorem lp_go {bx : Nat → Int32} {x : Int32} {q : Nat} (hx : p.tables.exec = Jvm.exec) (hb : c.code = cX1_g) (hown : s.vm.findClass RX1 = some m.cls) (hts : ∀ w ∈ lw_all, w.before args s = true) (hK : va_K (dC, dI) sd_cl (sd_ty cB cI) s) (hS : va_S A s.heap H locs) (hV : sd_V A s) (hP : va_P (dC, dI) sd_cl [(q, .inl (cI, 4, .inl bx))] H)
    (kk : ∀ ls : Array Slot, lv_has ls 6 [(0, .int x), (1, .ref q), (2, .int (sd_gm bx 4)), (3, .int (nI 4))] → W p l e R s m args below meth c H locs cells slots Q (F0 m 120 ls [])) :
    ∀ (n i : Nat) (ls : Array Slot), i + n = 4 → lv_has ls 6 [(0, .int x), (1, .ref q), (2, .int (sd_gm bx i)), (3, .int (nI i))] → W p l e R s m args below meth c H locs cells slots Q (F0 m 61 ls []) := by
  intro n
  induction n with
  | zero =>
    intro i ls hi hl
    obtain rfl : i = 4 := by omega
    refine lv_iload_n hx hb dX1_g_61 rfl (lv_at hl 3 rfl) ?_
    refine lv_iconst (v := 4) hx hb dX1_g_62 (by decide) ?_
    exact lv_icmp_ge (tgt := 120) hx hb dX1_g_63 (by decide) (fun _ => kk ls hl) (fun h => absurd (by decide) h)
  | succ n ih =>
    intro i ls hi hl
    refine lv_iload_n hx hb dX1_g_61 rfl (lv_at hl 3 rfl) ?_
    refine lv_iconst (v := 4) hx hb dX1_g_62 (by decide) ?_
    refine lv_icmp_ge (tgt := 120) hx hb dX1_g_63 (by decide) (fun h => absurd h (sd_g4 i (by omega))) (fun _ => ?_)
    refine lv_iconst (v := 0) hx hb dX1_g_66 (by decide) ?_
    refine lv_istore (lv' := [(4, .int 0), (0, .int x), (1, .ref q), (2, .int (sd_gm bx i)), (3, .int (nI i))]) hx hb dX1_g_67 hl (by decide) rfl (fun ls hl => ?_)
    refine lv_iconst (v := 0) hx hb dX1_g_69 (by decide) ?_
    refine lv_istore (lv' := [(5, .int 0), (4, .int 0), (0, .int x), (1, .ref q), (2, .int (sd_gm bx i)), (3, .int (nI i))]) hx hb dX1_g_70 hl (by decide) rfl (fun ls hl => ?_)
    refine lp_gi (M := sd_gm bx i) (t := i) (bx := bx) (by omega) hx hb hown hts hK hS hV hP (fun ls hl => ?_) 4 0 ls rfl (lv_sub hl [2, 3, 4, 5, 1, 0] rfl)
    refine lv_iload_n hx hb dX1_g_104 rfl (lv_at hl 2 rfl) ?_
    refine lv_iload hx hb dX1_g_105 (lv_at hl 4 rfl) ?_
    refine lv_bipush (v := 8) hx hb dX1_g_107 (by decide) ?_
    refine lv_iload_n hx hb dX1_g_109 rfl (lv_at hl 3 rfl) ?_
    refine lv_imul hx hb dX1_g_110 ?_
    refine lv_ishl hx hb dX1_g_111 ?_
    refine lv_ior hx hb dX1_g_112 ?_
    refine sd_top (y := (sd_gm bx (i + 1))) (rfl) ?_
    refine lv_istore_n (lv' := [(2, .int (sd_gm bx (i + 1))), (0, .int x), (1, .ref q), (3, .int (nI i)), (4, .int (sd_gz bx i 4)), (5, .int (nI 4))]) hx hb dX1_g_113 rfl hl (by decide) rfl (fun ls hl => ?_)
    refine lv_iinc (v := (nI (i + 1))) (lv' := [(3, .int (nI (i + 1))), (2, .int (sd_gm bx (i + 1))), (0, .int x), (1, .ref q), (4, .int (sd_gz bx i 4)), (5, .int (nI 4))]) hx hb dX1_g_114 hl (k := 3) rfl (nI_1 i) (by decide) rfl (fun ls hl => ?_)
    refine lv_goto (tgt := 61) hx hb dX1_g_117 (by decide) ?_
    exact ih (i + 1) ls (by omega) (lv_sub hl [2, 3, 1, 0] rfl)
end SDM2
theorem sd_in24 (x : Int32) : vp_in (sd_us x 24) 256 := by rw [sd_ix3]; exact pk_andIn _ 8 (by decide) (by decide)
set_option maxHeartbeats 4000000 in
set_option maxRecDepth 100000 in
/-- g(x): one array of four comes -/
theorem mt_g (l : Launch) (dC : Nat → ClassId) (dI : Nat → Nat → Nat) (cB cI : ClassId) (x : Int32) (sz : Nat) : Met l yX1_g (ws_ yX1_g cX1_g 6 (some .int)) ({ frames := 0, cells := 1, slots := 4, locals := 0 } : Room) (va_Pc [.int x] (sd_pre (dC, dI) cB cI [] sz)) (va_Qi (fun (r : Int32) (_ : Unit) => r = sd_G x) (fun _ _ => True) (va_A [] sz)) 1 4 (va_A [] sz) := by
  refine sd_metW (Qc := fun A => va_Qi (fun (r : Int32) (_ : Unit) => r = sd_G x) (fun _ _ => True) A) (by decide) (Nat.le_of_ble_eq_true rfl) ?_
  intro p e s m below meth c ls A hx hb hr hml hts hown hlocks hname hP hK hD hV hA hS hl
  have hown : s.vm.findClass RX1 = some m.cls := hown
  have hl : lv_has ls 6 [(0, .int x)] := hl
  obtain ⟨-, -, ⟨⟨t0, hZ0, hT0⟩, ⟨t1, hZ1, hT1⟩, -⟩, -⟩ := id hV
  refine lv_iconst (v := 4) hx hb dX1_g_0 (by decide) ?_
  refine sd_newI hx hb hts hK hP hD hS hA 4 (by decide) (by decide) (by decide) (Nat.le_of_ble_eq_true rfl) (Nat.le_of_ble_eq_true rfl) dX1_g_1 (fun q H hP hD hS => ?_)
  have hP : va_P (dC, dI) sd_cl [(q, .inl (cI, 4, .inl (fun _ => 0)))] H := hP
  have hD : va_D A [(q, .inl (cI, 4, .inl (fun _ => 0)))] := hD
  refine W.widen (k := 1) (n := 4) (by first | omega | (dsimp only; omega)) (by first | omega | (dsimp only; omega)) ?_
  refine lv_dup hx hb dX1_g_3 rfl ?_
  refine lv_iconst (v := 0) hx hb dX1_g_4 (by decide) ?_
  refine va_gets hx hb hZ0 hS hown (hts _ q364) (fun _ h9 => h9) dX1_g_5 ?_
  refine lv_iload_n hx hb dX1_g_8 rfl (lv_at hl 0 rfl) ?_
  refine lv_sipush (v := 255) hx hb dX1_g_9 (by decide) ?_
  refine lv_iand hx hb dX1_g_12 ?_
  refine sd_ti hx hb hT0 hS (pk_andIn _ 8 (by decide) (by decide)) dX1_g_13 ?_
  refine sd_iast hx hb hK hP hD hS 0 1 rfl rfl (k := 0) (by decide) (by decide) (by decide) dX1_g_14 (fun H locs hP hD hS => ?_)
  have hP : va_P (dC, dI) sd_cl [(q, .inl (cI, 4, .inl (upd (fun _ => 0) 0 (sd_first (x &&& 255).toNatClampNeg))))] H := hP
  have hD : va_D A [(q, .inl (cI, 4, .inl (upd (fun _ => 0) 0 (sd_first (x &&& 255).toNatClampNeg))))] := hD
  refine lv_dup hx hb dX1_g_15 rfl ?_
  refine lv_iconst (v := 1) hx hb dX1_g_16 (by decide) ?_
  refine va_gets hx hb hZ1 hS hown (hts _ q366) (fun _ h9 => h9) dX1_g_17 ?_
  refine lv_iload_n hx hb dX1_g_20 rfl (lv_at hl 0 rfl) ?_
  refine lv_bipush (v := 8) hx hb dX1_g_21 (by decide) ?_
  refine lv_iushr (v := (sd_us x 8)) hx hb dX1_g_23 rfl ?_
  refine lv_sipush (v := 255) hx hb dX1_g_24 (by decide) ?_
  refine lv_iand hx hb dX1_g_27 ?_
  refine sd_ti hx hb hT1 hS (pk_andIn _ 8 (by decide) (by decide)) dX1_g_28 ?_
  refine sd_iast hx hb hK hP hD hS 0 1 rfl rfl (k := 1) (by decide) (by decide) (by decide) dX1_g_29 (fun H locs hP hD hS => ?_)
  have hP : va_P (dC, dI) sd_cl [(q, .inl (cI, 4, .inl (upd (upd (fun _ => 0) 0 (sd_first (x &&& 255).toNatClampNeg)) 1 (sd_second ((sd_us x 8) &&& 255).toNatClampNeg))))] H := hP
  have hD : va_D A [(q, .inl (cI, 4, .inl (upd (upd (fun _ => 0) 0 (sd_first (x &&& 255).toNatClampNeg)) 1 (sd_second ((sd_us x 8) &&& 255).toNatClampNeg))))] := hD
  refine lv_dup hx hb dX1_g_30 rfl ?_
  refine lv_iconst (v := 2) hx hb dX1_g_31 (by decide) ?_
  refine va_gets hx hb hZ0 hS hown (hts _ q364) (fun _ h9 => h9) dX1_g_32 ?_
  refine lv_iload_n hx hb dX1_g_35 rfl (lv_at hl 0 rfl) ?_
  refine lv_bipush (v := 16) hx hb dX1_g_36 (by decide) ?_
  refine lv_iushr (v := (sd_us x 16)) hx hb dX1_g_38 rfl ?_
  refine lv_sipush (v := 255) hx hb dX1_g_39 (by decide) ?_
  refine lv_iand hx hb dX1_g_42 ?_
  refine sd_ti hx hb hT0 hS (pk_andIn _ 8 (by decide) (by decide)) dX1_g_43 ?_
  refine sd_iast hx hb hK hP hD hS 0 1 rfl rfl (k := 2) (by decide) (by decide) (by decide) dX1_g_44 (fun H locs hP hD hS => ?_)
  have hP : va_P (dC, dI) sd_cl [(q, .inl (cI, 4, .inl (upd (upd (upd (fun _ => 0) 0 (sd_first (x &&& 255).toNatClampNeg)) 1 (sd_second ((sd_us x 8) &&& 255).toNatClampNeg)) 2 (sd_first ((sd_us x 16) &&& 255).toNatClampNeg))))] H := hP
  have hD : va_D A [(q, .inl (cI, 4, .inl (upd (upd (upd (fun _ => 0) 0 (sd_first (x &&& 255).toNatClampNeg)) 1 (sd_second ((sd_us x 8) &&& 255).toNatClampNeg)) 2 (sd_first ((sd_us x 16) &&& 255).toNatClampNeg))))] := hD
  refine lv_dup hx hb dX1_g_45 rfl ?_
  refine lv_iconst (v := 3) hx hb dX1_g_46 (by decide) ?_
  refine va_gets hx hb hZ1 hS hown (hts _ q366) (fun _ h9 => h9) dX1_g_47 ?_
  refine lv_iload_n hx hb dX1_g_50 rfl (lv_at hl 0 rfl) ?_
  refine lv_bipush (v := 24) hx hb dX1_g_51 (by decide) ?_
  refine lv_iushr (v := (sd_us x 24)) hx hb dX1_g_53 rfl ?_
  refine sd_ti hx hb hT1 hS (sd_in24 x) dX1_g_54 ?_
  refine sd_iast hx hb hK hP hD hS 0 1 rfl rfl (k := 3) (by decide) (by decide) (by decide) dX1_g_55 (fun H locs hP hD hS => ?_)
  have hP : va_P (dC, dI) sd_cl [(q, .inl (cI, 4, .inl (upd (upd (upd (upd (fun _ => 0) 0 (sd_first (x &&& 255).toNatClampNeg)) 1 (sd_second ((sd_us x 8) &&& 255).toNatClampNeg)) 2 (sd_first ((sd_us x 16) &&& 255).toNatClampNeg)) 3 (sd_second (sd_us x 24).toNatClampNeg))))] H := hP
  have hD : va_D A [(q, .inl (cI, 4, .inl (upd (upd (upd (upd (fun _ => 0) 0 (sd_first (x &&& 255).toNatClampNeg)) 1 (sd_second ((sd_us x 8) &&& 255).toNatClampNeg)) 2 (sd_first ((sd_us x 16) &&& 255).toNatClampNeg)) 3 (sd_second (sd_us x 24).toNatClampNeg))))] := hD
  refine lv_astore_n (lv' := [(1, .ref q), (0, .int x)]) hx hb dX1_g_56 rfl hl (by decide) rfl (fun ls hl => ?_)
  refine lv_iconst (v := 0) hx hb dX1_g_57 (by decide) ?_
  refine lv_istore_n (lv' := [(2, .int 0), (1, .ref q), (0, .int x)]) hx hb dX1_g_58 rfl hl (by decide) rfl (fun ls hl => ?_)
  refine lv_iconst (v := 0) hx hb dX1_g_59 (by decide) ?_
  refine lv_istore_n (lv' := [(3, .int 0), (2, .int 0), (1, .ref q), (0, .int x)]) hx hb dX1_g_60 rfl hl (by decide) rfl (fun ls hl => ?_)
  have hP : va_P (dC, dI) sd_cl [(q, .inl (cI, 4, .inl (sd_bx x)))] H := hP
  refine lp_go hx hb hown hts hK hS hV hP (fun ls hl => ?_) 4 0 ls rfl (lv_sub hl [3, 2, 1, 0] rfl)
  refine lv_iload_n hx hb dX1_g_120 rfl (lv_at hl 2 rfl) ?_
  exact W.iret (v := sd_gm (sd_bx x) 4) hx hb hr (fun t ht hW => ⟨⟨_, (), rfl, sd_gm_G x, trivial⟩, hS.F ht⟩) hS.2.2 dX1_g_121
end
section
/-! ===== SeedDeskModel: rounds, run ===== -/
section SDM3
variable {p : Program} {l : Launch} {e : Env} {R : Room} {s : State} {m : MethodId} {args : Array Value} {below : List Frame} {meth : Method} {c : Code} {H : Heap} {locs : List Loc} {cells slots : Nat} {Q : State → Prop} {dC : Nat → ClassId} {dI : Nat → Nat → Nat} {cB cI : ClassId} {A : Nat → Prop}
set_option maxHeartbeats 4000000 in
set_option maxRecDepth 100000 in
/-- rounds' loop -/
theorem lp_rounds {kf : Nat → Int32} {a0 b0 c0 d0 : Int32} {h0 k x y q : Nat} (hx : p.tables.exec = Jvm.exec) (hb : c.code = cX1_rounds) (hml : c.maxLocals = 9) (hown : s.vm.findClass RX1 = some m.cls) (hts : ∀ w ∈ lw_all, w.before args s = true) (hK : va_K (dC, dI) sd_cl (sd_ty cB cI) s) (hV : sd_V A s) (hA : ∀ q : Nat, s.heap.size ≤ q → A q)
    (kk : ∀ (u : Nat → Int32) (H : Heap) (locs : List Loc) (ls : Array Slot) (a1 b1 c1 d1 : Int32), (∀ j, j < 32 → u j = sd_rk a0 b0 c0 d0 j) → va_P (dC, dI) sd_cl [(h0, .inr (1, [.ref k, .ref x, .ref y])), (k, .inl (cI, 32, .inl kf)), (q, .inl (cI, 32, .inl u))] H → va_D A [(h0, .inr (1, [.ref k, .ref x, .ref y])), (k, .inl (cI, 32, .inl kf)), (q, .inl (cI, 32, .inl u))] → va_S A s.heap H locs → lv_has ls 9 [(0, .ref h0), (1, .ref q), (2, .int a1), (3, .int b1), (4, .int c1), (5, .int d1), (6, .int (sd_km 16)), (7, .int (nI 16))] → W p l e ({ frames := 1, cells := 33, slots := 160, locals := 25 } : Room) s m args below meth c H locs (33) (160) Q (F0 m 175 ls [])) :
    ∀ (n i : Nat) (u : Nat → Int32) (H : Heap) (locs : List Loc) (ls : Array Slot) (a1 b1 c1 d1 : Int32), i + n = 16 → sd_ks a0 b0 c0 d0 i = (a1, b1, c1, d1) → (∀ j, j < 2 * i → u j = sd_rk a0 b0 c0 d0 j) → va_P (dC, dI) sd_cl [(h0, .inr (1, [.ref k, .ref x, .ref y])), (k, .inl (cI, 32, .inl kf)), (q, .inl (cI, 32, .inl u))] H → va_D A [(h0, .inr (1, [.ref k, .ref x, .ref y])), (k, .inl (cI, 32, .inl kf)), (q, .inl (cI, 32, .inl u))] → va_S A s.heap H locs → lv_has ls 9 [(0, .ref h0), (1, .ref q), (2, .int a1), (3, .int b1), (4, .int c1), (5, .int d1), (6, .int (sd_km i)), (7, .int (nI i))] → W p l e ({ frames := 1, cells := 33, slots := 160, locals := 25 } : Room) s m args below meth c H locs (1 + 2 * i) (32 + 8 * i) Q (F0 m 52 ls []) := by
  intro n
  induction n with
  | zero =>
    intro i u H locs ls a1 b1 c1 d1 hi hq hu hP hD hS hl
    obtain rfl : i = 16 := by omega
    refine lv_iload hx hb dX1_rounds_52 (lv_at hl 7 rfl) ?_
    refine lv_bipush (v := 16) hx hb dX1_rounds_54 (by decide) ?_
    exact lv_icmp_ge (tgt := 175) hx hb dX1_rounds_56 (by decide) (fun _ => kk u H locs ls a1 b1 c1 d1 hu hP hD hS hl) (fun h => absurd (by decide) h)
  | succ n ih =>
    intro i u H locs ls a1 b1 c1 d1 hi hq hu hP hD hS hl
    refine lv_iload hx hb dX1_rounds_52 (lv_at hl 7 rfl) ?_
    refine lv_bipush (v := 16) hx hb dX1_rounds_54 (by decide) ?_
    refine lv_icmp_ge (tgt := 175) hx hb dX1_rounds_56 (by decide) (fun h => absurd h (sd_g16 i (by omega))) (fun _ => ?_)
    refine lv_aload_n hx hb dX1_rounds_59 rfl (lv_at hl 1 rfl) ?_
    refine lv_iconst (v := 2) hx hb dX1_rounds_60 (by decide) ?_
    refine lv_iload hx hb dX1_rounds_61 (lv_at hl 7 rfl) ?_
    refine lv_imul hx hb dX1_rounds_63 ?_
    refine lv_iload_n hx hb dX1_rounds_64 rfl (lv_at hl 2 rfl) ?_
    refine lv_iload hx hb dX1_rounds_65 (lv_at hl 4 rfl) ?_
    refine lv_iadd hx hb dX1_rounds_67 ?_
    refine lv_iload hx hb dX1_rounds_68 (lv_at hl 6 rfl) ?_
    refine lv_isub hx hb dX1_rounds_70 ?_
    have hFc := va_free (wc := []) hD hS hA [] rfl
    refine va_calli (va_runS (As := [.int ((a1 + c1) - (sd_km i))]) (rest := [.int (2 * (nI i)), .ref q]) ⟨hx, hb, hml, hown, hts⟩ (mt_g l dC dI cB cI ((a1 + c1) - (sd_km i)) H.size) (va_cwS 1 hts (lw_S q361 q362 q17 q363) rfl rfl rfl (by decide +kernel) ⟨Nat.le_of_ble_eq_true rfl, Nat.le_of_ble_eq_true rfl⟩) (sd_preS hK hV hS (hP.sub [] rfl) (hD.sub [] (by decide) rfl) hFc) rfl rfl hl.1 rfl (lv_room (Nat.le_of_ble_eq_true rfl)) dX1_rounds_71 ⟨by show _ ≤ 33; omega, by show _ ≤ 160; omega⟩) hS (fun q _ h => hFc q h) hFc (fun g1 _ t H locs ht hvm hg1 _ hz1 hk1 hS => ?_)
    have hP := sd_keep hP hk1
    refine sd_iast hx hb hK hP hD hS 2 1 rfl rfl (k := 2 * i) (sd_m2 i) (by omega) (by decide) dX1_rounds_74 (fun H locs hP hD hS => ?_)
    have hP : va_P (dC, dI) sd_cl [(h0, .inr (1, [.ref k, .ref x, .ref y])), (k, .inl (cI, 32, .inl kf)), (q, .inl (cI, 32, .inl (upd u (2 * i) g1)))] H := hP
    have hD : va_D A [(h0, .inr (1, [.ref k, .ref x, .ref y])), (k, .inl (cI, 32, .inl kf)), (q, .inl (cI, 32, .inl (upd u (2 * i) g1)))] := hD
    refine lv_aload_n hx hb dX1_rounds_75 rfl (lv_at hl 1 rfl) ?_
    refine lv_iconst (v := 2) hx hb dX1_rounds_76 (by decide) ?_
    refine lv_iload hx hb dX1_rounds_77 (lv_at hl 7 rfl) ?_
    refine lv_imul hx hb dX1_rounds_79 ?_
    refine lv_iconst (v := 1) hx hb dX1_rounds_80 (by decide) ?_
    refine lv_iadd hx hb dX1_rounds_81 ?_
    refine lv_iload_n hx hb dX1_rounds_82 rfl (lv_at hl 3 rfl) ?_
    refine lv_iload hx hb dX1_rounds_83 (lv_at hl 5 rfl) ?_
    refine lv_isub hx hb dX1_rounds_85 ?_
    refine lv_iload hx hb dX1_rounds_86 (lv_at hl 6 rfl) ?_
    refine lv_iadd hx hb dX1_rounds_88 ?_
    have hFc := va_free (wc := []) hD hS hA [] rfl
    refine va_calli (va_runS (As := [.int ((b1 - d1) + (sd_km i))]) (rest := [.int ((2 * (nI i)) + 1), .ref q]) ⟨hx, hb, hml, hown, hts⟩ (mt_g l dC dI cB cI ((b1 - d1) + (sd_km i)) H.size) (va_cwS 1 hts (lw_S q361 q362 q17 q363) rfl rfl rfl (by decide +kernel) ⟨Nat.le_of_ble_eq_true rfl, Nat.le_of_ble_eq_true rfl⟩) (sd_preS hK hV hS (hP.sub [] rfl) (hD.sub [] (by decide) rfl) hFc) rfl rfl hl.1 rfl (lv_room (Nat.le_of_ble_eq_true rfl)) dX1_rounds_89 ⟨by show _ ≤ 33; omega, by show _ ≤ 160; omega⟩) hS (fun q _ h => hFc q h) hFc (fun g2 _ t H locs ht hvm hg2 _ hz1 hk1 hS => ?_)
    have hP := sd_keep hP hk1
    refine sd_iast hx hb hK hP hD hS 2 1 rfl rfl (k := 2 * i + 1) (sd_m21 i) (by omega) (by decide) dX1_rounds_92 (fun H locs hP hD hS => ?_)
    have hP : va_P (dC, dI) sd_cl [(h0, .inr (1, [.ref k, .ref x, .ref y])), (k, .inl (cI, 32, .inl kf)), (q, .inl (cI, 32, .inl (upd (upd u (2 * i) g1) (2 * i + 1) g2)))] H := hP
    have hD : va_D A [(h0, .inr (1, [.ref k, .ref x, .ref y])), (k, .inl (cI, 32, .inl kf)), (q, .inl (cI, 32, .inl (upd (upd u (2 * i) g1) (2 * i + 1) g2)))] := hD
    rw [sd_km_kc i (by omega)] at hg1 hg2
    have hu := sd_two hu (hg1.trans (sd_rk_e hq)) (hg2.trans (sd_rk_o hq))
    refine lv_iload hx hb dX1_rounds_93 (lv_at hl 7 rfl) ?_
    refine lv_iconst (v := 2) hx hb dX1_rounds_95 (by decide) ?_
    refine lv_irem hx hb dX1_rounds_96 (by decide) ?_
    refine sd_top (y := (nI (i % 2))) (sd_rem2 (by omega)) ?_
    refine lv_if_ne (tgt := 127) hx hb dX1_rounds_97 (by decide) (fun hm => ?_) (fun hm => ?_)
    · have hq1 := sd_ks_o (sd_mod1 hm) hq
      refine lv_iload hx hb dX1_rounds_127 (lv_at hl 4 rfl) ?_
      refine lv_istore (lv' := [(8, .int c1), (0, .ref h0), (1, .ref q), (2, .int a1), (3, .int b1), (4, .int c1), (5, .int d1), (6, .int (sd_km i)), (7, .int (nI i))]) hx hb dX1_rounds_129 hl (by decide) rfl (fun ls hl => ?_)
      refine lv_iload hx hb dX1_rounds_131 (lv_at hl 5 rfl) ?_
      refine lv_bipush (v := 8) hx hb dX1_rounds_133 (by decide) ?_
      refine lv_ishl hx hb dX1_rounds_135 ?_
      refine lv_iload hx hb dX1_rounds_136 (lv_at hl 6 rfl) ?_
      refine lv_bipush (v := 24) hx hb dX1_rounds_138 (by decide) ?_
      refine lv_iushr (v := (sd_us d1 24)) hx hb dX1_rounds_140 rfl ?_
      refine lv_ior hx hb dX1_rounds_141 ?_
      refine lv_istore (lv' := [(4, .int ((c1 <<< (8 &&& 31)) ||| (sd_us d1 24))), (8, .int c1), (0, .ref h0), (1, .ref q), (2, .int a1), (3, .int b1), (5, .int d1), (6, .int (sd_km i)), (7, .int (nI i))]) hx hb dX1_rounds_142 hl (by decide) rfl (fun ls hl => ?_)
      refine lv_iload hx hb dX1_rounds_144 (lv_at hl 6 rfl) ?_
      refine lv_bipush (v := 8) hx hb dX1_rounds_146 (by decide) ?_
      refine lv_ishl hx hb dX1_rounds_148 ?_
      refine lv_iload hx hb dX1_rounds_149 (lv_at hl 1 rfl) ?_
      refine lv_bipush (v := 24) hx hb dX1_rounds_151 (by decide) ?_
      refine lv_iushr (v := (sd_us c1 24)) hx hb dX1_rounds_153 rfl ?_
      refine lv_ior hx hb dX1_rounds_154 ?_
      refine lv_istore (lv' := [(5, .int ((d1 <<< (8 &&& 31)) ||| (sd_us c1 24))), (4, .int ((c1 <<< (8 &&& 31)) ||| (sd_us d1 24))), (8, .int c1), (0, .ref h0), (1, .ref q), (2, .int a1), (3, .int b1), (6, .int (sd_km i)), (7, .int (nI i))]) hx hb dX1_rounds_155 hl (by decide) rfl (fun ls hl => ?_)
      refine lv_iload hx hb dX1_rounds_157 (lv_at hl 7 rfl) ?_
      refine lv_iconst (v := 1) hx hb dX1_rounds_159 (by decide) ?_
      refine lv_ishl hx hb dX1_rounds_160 ?_
      refine lv_iload hx hb dX1_rounds_161 (lv_at hl 7 rfl) ?_
      refine lv_bipush (v := 31) hx hb dX1_rounds_163 (by decide) ?_
      refine lv_iushr (v := (sd_us (sd_km i) 31)) hx hb dX1_rounds_165 rfl ?_
      refine lv_ior hx hb dX1_rounds_166 ?_
      refine sd_top (y := (sd_km (i + 1))) (rfl) ?_
      refine lv_istore (lv' := [(6, .int (sd_km (i + 1))), (5, .int ((d1 <<< (8 &&& 31)) ||| (sd_us c1 24))), (4, .int ((c1 <<< (8 &&& 31)) ||| (sd_us d1 24))), (8, .int c1), (0, .ref h0), (1, .ref q), (2, .int a1), (3, .int b1), (7, .int (nI i))]) hx hb dX1_rounds_167 hl (by decide) rfl (fun ls hl => ?_)
      refine lv_iinc (v := (nI (i + 1))) (lv' := [(7, .int (nI (i + 1))), (6, .int (sd_km (i + 1))), (5, .int ((d1 <<< (8 &&& 31)) ||| (sd_us c1 24))), (4, .int ((c1 <<< (8 &&& 31)) ||| (sd_us d1 24))), (8, .int c1), (0, .ref h0), (1, .ref q), (2, .int a1), (3, .int b1)]) hx hb dX1_rounds_169 hl (k := 8) rfl (nI_1 i) (by decide) rfl (fun ls hl => ?_)
      refine lv_goto (tgt := 52) hx hb dX1_rounds_172 (by decide) ?_
      refine W.widen (k := 1 + 2 * (i + 1)) (n := 32 + 8 * (i + 1)) (by omega) (by omega) ?_
      exact ih (i + 1) _ H locs ls a1 b1 _ _ (by omega) hq1 hu hP hD hS (lv_sub hl [5, 6, 7, 8, 3, 2, 1, 0] rfl)
    · have hq1 := sd_ks_e (sd_mod0 hm) hq
      refine lv_iload_n hx hb dX1_rounds_100 rfl (lv_at hl 2 rfl) ?_
      refine lv_istore (lv' := [(8, .int a1), (0, .ref h0), (1, .ref q), (2, .int a1), (3, .int b1), (4, .int c1), (5, .int d1), (6, .int (sd_km i)), (7, .int (nI i))]) hx hb dX1_rounds_101 hl (by decide) rfl (fun ls hl => ?_)
      refine lv_iload_n hx hb dX1_rounds_103 rfl (lv_at hl 3 rfl) ?_
      refine lv_bipush (v := 8) hx hb dX1_rounds_104 (by decide) ?_
      refine lv_iushr (v := (sd_us a1 8)) hx hb dX1_rounds_106 rfl ?_
      refine lv_iload_n hx hb dX1_rounds_107 rfl (lv_at hl 4 rfl) ?_
      refine lv_bipush (v := 24) hx hb dX1_rounds_108 (by decide) ?_
      refine lv_ishl hx hb dX1_rounds_110 ?_
      refine lv_ior hx hb dX1_rounds_111 ?_
      refine lv_istore_n (lv' := [(2, .int ((sd_us a1 8) ||| (b1 <<< (24 &&& 31)))), (8, .int a1), (0, .ref h0), (1, .ref q), (3, .int b1), (4, .int c1), (5, .int d1), (6, .int (sd_km i)), (7, .int (nI i))]) hx hb dX1_rounds_112 rfl hl (by decide) rfl (fun ls hl => ?_)
      refine lv_iload_n hx hb dX1_rounds_113 rfl (lv_at hl 4 rfl) ?_
      refine lv_bipush (v := 8) hx hb dX1_rounds_114 (by decide) ?_
      refine lv_iushr (v := (sd_us b1 8)) hx hb dX1_rounds_116 rfl ?_
      refine lv_iload hx hb dX1_rounds_117 (lv_at hl 1 rfl) ?_
      refine lv_bipush (v := 24) hx hb dX1_rounds_119 (by decide) ?_
      refine lv_ishl hx hb dX1_rounds_121 ?_
      refine lv_ior hx hb dX1_rounds_122 ?_
      refine lv_istore_n (lv' := [(3, .int ((sd_us b1 8) ||| (a1 <<< (24 &&& 31)))), (2, .int ((sd_us a1 8) ||| (b1 <<< (24 &&& 31)))), (8, .int a1), (0, .ref h0), (1, .ref q), (4, .int c1), (5, .int d1), (6, .int (sd_km i)), (7, .int (nI i))]) hx hb dX1_rounds_123 rfl hl (by decide) rfl (fun ls hl => ?_)
      refine lv_goto (tgt := 157) hx hb dX1_rounds_124 (by decide) ?_
      refine lv_iload hx hb dX1_rounds_157 (lv_at hl 7 rfl) ?_
      refine lv_iconst (v := 1) hx hb dX1_rounds_159 (by decide) ?_
      refine lv_ishl hx hb dX1_rounds_160 ?_
      refine lv_iload hx hb dX1_rounds_161 (lv_at hl 7 rfl) ?_
      refine lv_bipush (v := 31) hx hb dX1_rounds_163 (by decide) ?_
      refine lv_iushr (v := (sd_us (sd_km i) 31)) hx hb dX1_rounds_165 rfl ?_
      refine lv_ior hx hb dX1_rounds_166 ?_
      refine sd_top (y := (sd_km (i + 1))) (rfl) ?_
      refine lv_istore (lv' := [(6, .int (sd_km (i + 1))), (3, .int ((sd_us b1 8) ||| (a1 <<< (24 &&& 31)))), (2, .int ((sd_us a1 8) ||| (b1 <<< (24 &&& 31)))), (8, .int a1), (0, .ref h0), (1, .ref q), (4, .int c1), (5, .int d1), (7, .int (nI i))]) hx hb dX1_rounds_167 hl (by decide) rfl (fun ls hl => ?_)
      refine lv_iinc (v := (nI (i + 1))) (lv' := [(7, .int (nI (i + 1))), (6, .int (sd_km (i + 1))), (3, .int ((sd_us b1 8) ||| (a1 <<< (24 &&& 31)))), (2, .int ((sd_us a1 8) ||| (b1 <<< (24 &&& 31)))), (8, .int a1), (0, .ref h0), (1, .ref q), (4, .int c1), (5, .int d1)]) hx hb dX1_rounds_169 hl (k := 8) rfl (nI_1 i) (by decide) rfl (fun ls hl => ?_)
      refine lv_goto (tgt := 52) hx hb dX1_rounds_172 (by decide) ?_
      refine W.widen (k := 1 + 2 * (i + 1)) (n := 32 + 8 * (i + 1)) (by omega) (by omega) ?_
      exact ih (i + 1) _ H locs ls _ _ c1 d1 (by omega) hq1 hu hP hD hS (lv_sub hl [5, 6, 3, 2, 7, 8, 1, 0] rfl)
end SDM3
set_option maxHeartbeats 4000000 in
set_option maxRecDepth 100000 in
/-- rounds() -/
theorem mt_rounds (l : Launch) (dC : Nat → ClassId) (dI : Nat → Nat → Nat) (cB cI : ClassId) (h0 k x y : Nat) (kf : Nat → Int32) (sz : Nat) : Met l yX1_rounds (ws_ yX1_rounds cX1_rounds 9 (some (.array .int))) ({ frames := 1, cells := 33, slots := 160, locals := 25 } : Room) (va_Pc [.ref h0] (sd_pre (dC, dI) cB cI [(h0, .inr (1, [.ref k, .ref x, .ref y])), (k, .inl (cI, 32, .inl kf))] sz)) (va_Qr (fun u : Nat → Int32 => ∀ j, j < 32 → u j = sd_rk (sd_w4 kf 0) (sd_w4 kf 4) (sd_w4 kf 8) (sd_w4 kf 12) j) (fun u q t => va_P (dC, dI) sd_cl [(h0, .inr (1, [.ref k, .ref x, .ref y])), (k, .inl (cI, 32, .inl kf)), (q, .inl (cI, 32, .inl u))] t.heap ∧ va_D (va_A [(h0, .inr (1, [.ref k, .ref x, .ref y])), (k, .inl (cI, 32, .inl kf))] sz) [(h0, .inr (1, [.ref k, .ref x, .ref y])), (k, .inl (cI, 32, .inl kf)), (q, .inl (cI, 32, .inl u))]) (va_A [(h0, .inr (1, [.ref k, .ref x, .ref y])), (k, .inl (cI, 32, .inl kf))] sz)) 33 160 (va_A [(h0, .inr (1, [.ref k, .ref x, .ref y])), (k, .inl (cI, 32, .inl kf))] sz) := by
  refine sd_metW (Qc := fun A => va_Qr (fun u : Nat → Int32 => ∀ j, j < 32 → u j = sd_rk (sd_w4 kf 0) (sd_w4 kf 4) (sd_w4 kf 8) (sd_w4 kf 12) j) (fun u q t => va_P (dC, dI) sd_cl [(h0, .inr (1, [.ref k, .ref x, .ref y])), (k, .inl (cI, 32, .inl kf)), (q, .inl (cI, 32, .inl u))] t.heap ∧ va_D A [(h0, .inr (1, [.ref k, .ref x, .ref y])), (k, .inl (cI, 32, .inl kf)), (q, .inl (cI, 32, .inl u))]) A) (by decide) (Nat.le_of_ble_eq_true rfl) ?_
  intro p e s m below meth c ls A hx hb hr hml hts hown hlocks hname hP hK hD hV hA hS hl
  have hown : s.vm.findClass RX1 = some m.cls := hown
  have hl : lv_has ls 9 [(0, .ref h0)] := hl
  refine lv_bipush (v := 32) hx hb dX1_rounds_0 (by decide) ?_
  refine sd_newI hx hb hts hK hP hD hS hA 32 (by decide) (by decide) (by decide) (Nat.le_of_ble_eq_true rfl) (Nat.le_of_ble_eq_true rfl) dX1_rounds_2 (fun q H hP hD hS => ?_)
  have hP : va_P (dC, dI) sd_cl [(h0, .inr (1, [.ref k, .ref x, .ref y])), (k, .inl (cI, 32, .inl kf)), (q, .inl (cI, 32, .inl (fun _ => 0)))] H := hP
  have hD : va_D A [(h0, .inr (1, [.ref k, .ref x, .ref y])), (k, .inl (cI, 32, .inl kf)), (q, .inl (cI, 32, .inl (fun _ => 0)))] := hD
  refine W.widen (k := 1 + 2 * 0) (n := 32 + 8 * 0) (by first | omega | (dsimp only; omega)) (by first | omega | (dsimp only; omega)) ?_
  refine lv_astore_n (lv' := [(1, .ref q), (0, .ref h0)]) hx hb dX1_rounds_4 rfl hl (by decide) rfl (fun ls hl => ?_)
  refine lv_aload_n hx hb dX1_rounds_5 rfl (lv_at hl 1 rfl) ?_
  refine va_get (D := (dC, dI)) (ci := 1) (v := .ref k) (C := RX1) (T := TX1) (N := 3) hx hb hts in_X1 hown hK hP 0 rfl rfl 0 (by decide) (hts _ q324) (fun _ h9 => h9) rfl dX1_rounds_6 ?_
  refine lv_iconst (v := 0) hx hb dX1_rounds_9 (by decide) ?_
  refine vp_callSi (va_runS (As := [.ref k, .int 0]) (rest := []) ⟨hx, hb, hml, hown, hts⟩ (mt_four l dC dI cB cI k 0 32 (by decide) (by decide) kf) (va_cwS 2 hts (lw_S q357 q358 q17 q359) rfl rfl rfl (by decide +kernel) ⟨Nat.le_of_ble_eq_true rfl, Nat.le_of_ble_eq_true rfl⟩) (sd_purS hK hV hS (hP.sub [1] rfl)) rfl rfl hl.1 rfl (lv_room (Nat.le_of_ble_eq_true rfl)) dX1_rounds_10 ⟨Nat.le_of_ble_eq_true rfl, Nat.le_of_ble_eq_true rfl⟩).run (fun r0 hr0 => ?_)
  refine sd_top (y := (sd_w4 kf 0)) (hr0) ?_
  refine lv_istore_n (lv' := [(2, .int (sd_w4 kf 0)), (1, .ref q), (0, .ref h0)]) hx hb dX1_rounds_13 rfl hl (by decide) rfl (fun ls hl => ?_)
  refine lv_aload_n hx hb dX1_rounds_14 rfl (lv_at hl 2 rfl) ?_
  refine va_get (D := (dC, dI)) (ci := 1) (v := .ref k) (C := RX1) (T := TX1) (N := 3) hx hb hts in_X1 hown hK hP 0 rfl rfl 0 (by decide) (hts _ q324) (fun _ h9 => h9) rfl dX1_rounds_15 ?_
  refine lv_iconst (v := 4) hx hb dX1_rounds_18 (by decide) ?_
  refine vp_callSi (va_runS (As := [.ref k, .int 4]) (rest := []) ⟨hx, hb, hml, hown, hts⟩ (mt_four l dC dI cB cI k 4 32 (by decide) (by decide) kf) (va_cwS 2 hts (lw_S q357 q358 q17 q359) rfl rfl rfl (by decide +kernel) ⟨Nat.le_of_ble_eq_true rfl, Nat.le_of_ble_eq_true rfl⟩) (sd_purS hK hV hS (hP.sub [1] rfl)) rfl rfl hl.1 rfl (lv_room (Nat.le_of_ble_eq_true rfl)) dX1_rounds_19 ⟨Nat.le_of_ble_eq_true rfl, Nat.le_of_ble_eq_true rfl⟩).run (fun r1 hr1 => ?_)
  refine sd_top (y := (sd_w4 kf 4)) (hr1) ?_
  refine lv_istore_n (lv' := [(3, .int (sd_w4 kf 4)), (2, .int (sd_w4 kf 0)), (1, .ref q), (0, .ref h0)]) hx hb dX1_rounds_22 rfl hl (by decide) rfl (fun ls hl => ?_)
  refine lv_aload_n hx hb dX1_rounds_23 rfl (lv_at hl 3 rfl) ?_
  refine va_get (D := (dC, dI)) (ci := 1) (v := .ref k) (C := RX1) (T := TX1) (N := 3) hx hb hts in_X1 hown hK hP 0 rfl rfl 0 (by decide) (hts _ q324) (fun _ h9 => h9) rfl dX1_rounds_24 ?_
  refine lv_bipush (v := 8) hx hb dX1_rounds_27 (by decide) ?_
  refine vp_callSi (va_runS (As := [.ref k, .int 8]) (rest := []) ⟨hx, hb, hml, hown, hts⟩ (mt_four l dC dI cB cI k 8 32 (by decide) (by decide) kf) (va_cwS 2 hts (lw_S q357 q358 q17 q359) rfl rfl rfl (by decide +kernel) ⟨Nat.le_of_ble_eq_true rfl, Nat.le_of_ble_eq_true rfl⟩) (sd_purS hK hV hS (hP.sub [1] rfl)) rfl rfl hl.1 rfl (lv_room (Nat.le_of_ble_eq_true rfl)) dX1_rounds_29 ⟨Nat.le_of_ble_eq_true rfl, Nat.le_of_ble_eq_true rfl⟩).run (fun r2 hr2 => ?_)
  refine sd_top (y := (sd_w4 kf 8)) (hr2) ?_
  refine lv_istore (lv' := [(4, .int (sd_w4 kf 8)), (3, .int (sd_w4 kf 4)), (2, .int (sd_w4 kf 0)), (1, .ref q), (0, .ref h0)]) hx hb dX1_rounds_32 hl (by decide) rfl (fun ls hl => ?_)
  refine lv_aload_n hx hb dX1_rounds_34 rfl (lv_at hl 4 rfl) ?_
  refine va_get (D := (dC, dI)) (ci := 1) (v := .ref k) (C := RX1) (T := TX1) (N := 3) hx hb hts in_X1 hown hK hP 0 rfl rfl 0 (by decide) (hts _ q324) (fun _ h9 => h9) rfl dX1_rounds_35 ?_
  refine lv_bipush (v := 12) hx hb dX1_rounds_38 (by decide) ?_
  refine vp_callSi (va_runS (As := [.ref k, .int 12]) (rest := []) ⟨hx, hb, hml, hown, hts⟩ (mt_four l dC dI cB cI k 12 32 (by decide) (by decide) kf) (va_cwS 2 hts (lw_S q357 q358 q17 q359) rfl rfl rfl (by decide +kernel) ⟨Nat.le_of_ble_eq_true rfl, Nat.le_of_ble_eq_true rfl⟩) (sd_purS hK hV hS (hP.sub [1] rfl)) rfl rfl hl.1 rfl (lv_room (Nat.le_of_ble_eq_true rfl)) dX1_rounds_40 ⟨Nat.le_of_ble_eq_true rfl, Nat.le_of_ble_eq_true rfl⟩).run (fun r3 hr3 => ?_)
  refine sd_top (y := (sd_w4 kf 12)) (hr3) ?_
  refine lv_istore (lv' := [(5, .int (sd_w4 kf 12)), (4, .int (sd_w4 kf 8)), (3, .int (sd_w4 kf 4)), (2, .int (sd_w4 kf 0)), (1, .ref q), (0, .ref h0)]) hx hb dX1_rounds_43 hl (by decide) rfl (fun ls hl => ?_)
  refine lv_ldc hx hb hown (hts _ q360) dX1_rounds_45 ?_
  refine lv_istore (lv' := [(6, .int (-1640531527)), (5, .int (sd_w4 kf 12)), (4, .int (sd_w4 kf 8)), (3, .int (sd_w4 kf 4)), (2, .int (sd_w4 kf 0)), (1, .ref q), (0, .ref h0)]) hx hb dX1_rounds_47 hl (by decide) rfl (fun ls hl => ?_)
  refine lv_iconst (v := 0) hx hb dX1_rounds_49 (by decide) ?_
  refine lv_istore (lv' := [(7, .int 0), (6, .int (-1640531527)), (5, .int (sd_w4 kf 12)), (4, .int (sd_w4 kf 8)), (3, .int (sd_w4 kf 4)), (2, .int (sd_w4 kf 0)), (1, .ref q), (0, .ref h0)]) hx hb dX1_rounds_50 hl (by decide) rfl (fun ls hl => ?_)
  refine lp_rounds (kf := kf) (a0 := (sd_w4 kf 0)) (b0 := (sd_w4 kf 4)) (c0 := (sd_w4 kf 8)) (d0 := (sd_w4 kf 12)) hx hb hml hown hts hK hV hA (fun u H locs ls a1 b1 c1 d1 hu hP hD hS hl => ?_) 16 0 _ H _ ls (sd_w4 kf 0) (sd_w4 kf 4) (sd_w4 kf 8) (sd_w4 kf 12) rfl rfl (fun j hj => absurd hj (by omega)) hP hD hS (lv_sub hl [7, 6, 5, 4, 3, 2, 1, 0] rfl)
  refine lv_aload_n hx hb dX1_rounds_175 rfl (lv_at hl 1 rfl) ?_
  exact W.aret (v := .ref q) hx hb hr (Or.inr ⟨_, rfl⟩) (Or.inr ⟨_, rfl⟩) (fun t ht hW => ⟨⟨u, q, rfl, hu, by rw [ht]; exact hP, hD⟩, hS.F ht⟩) hS.2.2 dX1_rounds_176
end
section
/-! ===== SeedDeskModel.run: its loop ===== -/
theorem sd_u0 (z : Nat → Int32) (a b : Int32) : upd (upd z 0 a) 1 b 0 = a := rfl
theorem sd_u1 (z : Nat → Int32) (a b : Int32) : upd (upd z 0 a) 1 b 1 = b := rfl
section SDM4
variable {p : Program} {l : Launch} {e : Env} {R : Room} {s : State} {m : MethodId} {args : Array Value} {below : List Frame} {meth : Method} {c : Code} {H : Heap} {locs : List Loc} {cells slots : Nat} {Q : State → Prop} {dC : Nat → ClassId} {dI : Nat → Nat → Nat} {cB cI : ClassId} {A : Nat → Prop}
set_option maxHeartbeats 4000000 in
set_option maxRecDepth 100000 in
/-- run's loop -/
theorem lp_run {kf bf of K : Nat → Int32} {w4 : Int32 × Int32 × Int32 × Int32} {b : Int32} {h0 k x y q : Nat} (hx : p.tables.exec = Jvm.exec) (hb : c.code = cX1_run) (hml : c.maxLocals = 10) (hown : s.vm.findClass RX1 = some m.cls) (hts : ∀ w ∈ lw_all, w.before args s = true) (hK : va_K (dC, dI) sd_cl (sd_ty cB cI) s) (hV : sd_V A s) (hA : ∀ q : Nat, s.heap.size ≤ q → A q)
    (kk : ∀ (l0 l1 r0 r1 : Int32) (pl pr : Nat) (fl fr : Nat → Int32) (H : Heap) (locs : List Loc) (ls : Array Slot), sd_rs K (sd_or b) w4 16 = (l0, l1, r0, r1) → fl 0 = l0 ∧ fl 1 = l1 ∧ fr 0 = r0 ∧ fr 1 = r1 → va_P (dC, dI) sd_cl [(h0, .inr (1, [.ref k, .ref x, .ref y])), (k, .inl (cI, 32, .inl kf)), (x, .inl (cI, 16, .inl bf)), (y, .inl (cI, 16, .inl of)), (q, .inl (cI, 32, .inl K)), (pl, .inl (cI, 2, .inl fl)), (pr, .inl (cI, 2, .inl fr))] H → va_D A [(h0, .inr (1, [.ref k, .ref x, .ref y])), (k, .inl (cI, 32, .inl kf)), (x, .inl (cI, 16, .inl bf)), (y, .inl (cI, 16, .inl of)), (q, .inl (cI, 32, .inl K)), (pl, .inl (cI, 2, .inl fl)), (pr, .inl (cI, 2, .inl fr))] → va_S A s.heap H locs → lv_has ls 10 [(0, .ref h0), (1, .int b), (2, .ref q), (3, .ref pl), (4, .ref pr), (5, .int (nI 16))] → W p l e ({ frames := 2, cells := 99, slots := 388, locals := 53 } : Room) s m args below meth c H locs (99) (388) Q (F0 m 187 ls [])) :
    ∀ (n i : Nat) (l0 l1 r0 r1 : Int32) (pl pr : Nat) (fl fr : Nat → Int32) (H : Heap) (locs : List Loc) (ls : Array Slot), i + n = 16 → sd_rs K (sd_or b) w4 i = (l0, l1, r0, r1) → fl 0 = l0 ∧ fl 1 = l1 ∧ fr 0 = r0 ∧ fr 1 = r1 → va_P (dC, dI) sd_cl [(h0, .inr (1, [.ref k, .ref x, .ref y])), (k, .inl (cI, 32, .inl kf)), (x, .inl (cI, 16, .inl bf)), (y, .inl (cI, 16, .inl of)), (q, .inl (cI, 32, .inl K)), (pl, .inl (cI, 2, .inl fl)), (pr, .inl (cI, 2, .inl fr))] H → va_D A [(h0, .inr (1, [.ref k, .ref x, .ref y])), (k, .inl (cI, 32, .inl kf)), (x, .inl (cI, 16, .inl bf)), (y, .inl (cI, 16, .inl of)), (q, .inl (cI, 32, .inl K)), (pl, .inl (cI, 2, .inl fl)), (pr, .inl (cI, 2, .inl fr))] → va_S A s.heap H locs → lv_has ls 10 [(0, .ref h0), (1, .int b), (2, .ref q), (3, .ref pl), (4, .ref pr), (5, .int (nI i))] → W p l e ({ frames := 2, cells := 99, slots := 388, locals := 53 } : Room) s m args below meth c H locs (35 + 4 * i) (164 + 14 * i) Q (F0 m 63 ls []) := by
  intro n
  induction n with
  | zero =>
    intro i l0 l1 r0 r1 pl pr fl fr H locs ls hi hq he hP hD hS hl
    obtain rfl : i = 16 := by omega
    refine lv_iload hx hb dX1_run_63 (lv_at hl 5 rfl) ?_
    refine lv_bipush (v := 16) hx hb dX1_run_65 (by decide) ?_
    exact lv_icmp_ge (tgt := 187) hx hb dX1_run_67 (by decide) (fun _ => kk l0 l1 r0 r1 pl pr fl fr H locs ls hq he hP hD hS hl) (fun h => absurd (by decide) h)
  | succ n ih =>
    intro i l0 l1 r0 r1 pl pr fl fr H locs ls hi hq he hP hD hS hl
    have hor := sd_or_lt b (show i < 16 by omega)
    have join : ∀ ls : Array Slot, lv_has ls 10 [(0, .ref h0), (1, .int b), (2, .ref q), (3, .ref pl), (4, .ref pr), (5, .int (nI i))] → W p l e ({ frames := 2, cells := 99, slots := 388, locals := 53 } : Room) s m args below meth c H locs (35 + 4 * i) (164 + 14 * i) Q (F0 m 84 ls [.int (nI (sd_or b i))]) := by
      intro ls hl
      have hq1 := sd_rs_s hq
      generalize sd_or b i = d at hq1 hor ⊢
      obtain ⟨e0, e1, e2, e3⟩ := he
      refine lv_istore (lv' := [(6, .int (nI d)), (0, .ref h0), (1, .int b), (2, .ref q), (3, .ref pl), (4, .ref pr), (5, .int (nI i))]) hx hb dX1_run_84 hl (by decide) rfl (fun ls hl => ?_)
      refine lv_aload hx hb dX1_run_86 (lv_at hl 5 rfl) ?_
      refine lv_iconst (v := 0) hx hb dX1_run_88 (by decide) ?_
      refine sd_iald hx hb hK hP 6 1 rfl rfl (k := 0) (by decide) (by decide) (by decide) dX1_run_89 ?_
      refine sd_top (y := r0) (e2) ?_
      refine lv_aload_n hx hb dX1_run_90 rfl (lv_at hl 3 rfl) ?_
      refine lv_iconst (v := 2) hx hb dX1_run_91 (by decide) ?_
      refine lv_iload hx hb dX1_run_92 (lv_at hl 0 rfl) ?_
      refine lv_imul hx hb dX1_run_94 ?_
      refine sd_iald hx hb hK hP 4 1 rfl rfl (k := 2 * d) (sd_m2 d) (by omega) (by decide) dX1_run_95 ?_
      refine lv_ixor hx hb dX1_run_96 ?_
      refine lv_istore (lv' := [(7, .int (r0 ^^^ (K (2 * d)))), (6, .int (nI d)), (0, .ref h0), (1, .int b), (2, .ref q), (3, .ref pl), (4, .ref pr), (5, .int (nI i))]) hx hb dX1_run_97 hl (by decide) rfl (fun ls hl => ?_)
      refine lv_aload hx hb dX1_run_99 (lv_at hl 6 rfl) ?_
      refine lv_iconst (v := 1) hx hb dX1_run_101 (by decide) ?_
      refine sd_iald hx hb hK hP 6 1 rfl rfl (k := 1) (by decide) (by decide) (by decide) dX1_run_102 ?_
      refine sd_top (y := r1) (e3) ?_
      refine lv_aload_n hx hb dX1_run_103 rfl (lv_at hl 4 rfl) ?_
      refine lv_iconst (v := 2) hx hb dX1_run_104 (by decide) ?_
      refine lv_iload hx hb dX1_run_105 (lv_at hl 1 rfl) ?_
      refine lv_imul hx hb dX1_run_107 ?_
      refine lv_iconst (v := 1) hx hb dX1_run_108 (by decide) ?_
      refine lv_iadd hx hb dX1_run_109 ?_
      refine sd_iald hx hb hK hP 4 1 rfl rfl (k := 2 * d + 1) (sd_m21 d) (by omega) (by decide) dX1_run_110 ?_
      refine lv_ixor hx hb dX1_run_111 ?_
      refine lv_istore (lv' := [(8, .int (r1 ^^^ (K (2 * d + 1)))), (7, .int (r0 ^^^ (K (2 * d)))), (6, .int (nI d)), (0, .ref h0), (1, .int b), (2, .ref q), (3, .ref pl), (4, .ref pr), (5, .int (nI i))]) hx hb dX1_run_112 hl (by decide) rfl (fun ls hl => ?_)
      refine lv_iload hx hb dX1_run_114 (lv_at hl 1 rfl) ?_
      refine lv_iload hx hb dX1_run_116 (lv_at hl 0 rfl) ?_
      refine lv_ixor hx hb dX1_run_118 ?_
      have hFc := va_free (wc := []) hD hS hA [] rfl
      refine va_calli (va_runS (As := [.int ((r0 ^^^ (K (2 * d))) ^^^ (r1 ^^^ (K (2 * d + 1))))]) (rest := []) ⟨hx, hb, hml, hown, hts⟩ (mt_g l dC dI cB cI ((r0 ^^^ (K (2 * d))) ^^^ (r1 ^^^ (K (2 * d + 1)))) H.size) (va_cwS 1 hts (lw_S q361 q362 q17 q363) rfl rfl rfl (by decide +kernel) ⟨Nat.le_of_ble_eq_true rfl, Nat.le_of_ble_eq_true rfl⟩) (sd_preS hK hV hS (hP.sub [] rfl) (hD.sub [] (by decide) rfl) hFc) rfl rfl hl.1 rfl (lv_room (Nat.le_of_ble_eq_true rfl)) dX1_run_119 ⟨by show _ ≤ 99; omega, by show _ ≤ 388; omega⟩) hS (fun q _ h => hFc q h) hFc (fun g1 _ t H locs ht hvm hg1 _ hz1 hk1 hS => ?_)
      have hP := sd_keep hP hk1
      refine lv_istore (lv' := [(8, .int g1), (7, .int (r0 ^^^ (K (2 * d)))), (6, .int (nI d)), (0, .ref h0), (1, .int b), (2, .ref q), (3, .ref pl), (4, .ref pr), (5, .int (nI i))]) hx hb dX1_run_122 hl (by decide) rfl (fun ls hl => ?_)
      refine lv_iload hx hb dX1_run_124 (lv_at hl 1 rfl) ?_
      refine lv_iload hx hb dX1_run_126 (lv_at hl 0 rfl) ?_
      refine lv_iadd hx hb dX1_run_128 ?_
      have hFc := va_free (wc := []) hD hS hA [] rfl
      refine va_calli (va_runS (As := [.int ((r0 ^^^ (K (2 * d))) + g1)]) (rest := []) ⟨hx, hb, hml, hown, hts⟩ (mt_g l dC dI cB cI ((r0 ^^^ (K (2 * d))) + g1) H.size) (va_cwS 1 hts (lw_S q361 q362 q17 q363) rfl rfl rfl (by decide +kernel) ⟨Nat.le_of_ble_eq_true rfl, Nat.le_of_ble_eq_true rfl⟩) (sd_preS hK hV hS (hP.sub [] rfl) (hD.sub [] (by decide) rfl) hFc) rfl rfl hl.1 rfl (lv_room (Nat.le_of_ble_eq_true rfl)) dX1_run_129 ⟨by show _ ≤ 99; omega, by show _ ≤ 388; omega⟩) hS (fun q _ h => hFc q h) hFc (fun g2 _ t H locs ht hvm hg2 _ hz1 hk1 hS => ?_)
      have hP := sd_keep hP hk1
      refine lv_istore (lv' := [(7, .int g2), (8, .int g1), (6, .int (nI d)), (0, .ref h0), (1, .int b), (2, .ref q), (3, .ref pl), (4, .ref pr), (5, .int (nI i))]) hx hb dX1_run_132 hl (by decide) rfl (fun ls hl => ?_)
      refine lv_iload hx hb dX1_run_134 (lv_at hl 1 rfl) ?_
      refine lv_iload hx hb dX1_run_136 (lv_at hl 0 rfl) ?_
      refine lv_iadd hx hb dX1_run_138 ?_
      have hFc := va_free (wc := []) hD hS hA [] rfl
      refine va_calli (va_runS (As := [.int (g1 + g2)]) (rest := []) ⟨hx, hb, hml, hown, hts⟩ (mt_g l dC dI cB cI (g1 + g2) H.size) (va_cwS 1 hts (lw_S q361 q362 q17 q363) rfl rfl rfl (by decide +kernel) ⟨Nat.le_of_ble_eq_true rfl, Nat.le_of_ble_eq_true rfl⟩) (sd_preS hK hV hS (hP.sub [] rfl) (hD.sub [] (by decide) rfl) hFc) rfl rfl hl.1 rfl (lv_room (Nat.le_of_ble_eq_true rfl)) dX1_run_139 ⟨by show _ ≤ 99; omega, by show _ ≤ 388; omega⟩) hS (fun q _ h => hFc q h) hFc (fun g3 _ t H locs ht hvm hg3 _ hz1 hk1 hS => ?_)
      have hP := sd_keep hP hk1
      have hf1 : g2 = sd_f1 (r0 ^^^ (K (2 * d))) (r1 ^^^ (K (2 * d + 1))) := by rw [hg2, hg1, Int32.add_comm]; rfl
      have hf2 : g3 = sd_f2 (r0 ^^^ (K (2 * d))) (r1 ^^^ (K (2 * d + 1))) := by rw [hg3, Int32.add_comm, hf1, hg1]; rfl
      refine lv_istore (lv' := [(8, .int g3), (7, .int g2), (6, .int (nI d)), (0, .ref h0), (1, .int b), (2, .ref q), (3, .ref pl), (4, .ref pr), (5, .int (nI i))]) hx hb dX1_run_142 hl (by decide) rfl (fun ls hl => ?_)
      refine lv_iload hx hb dX1_run_144 (lv_at hl 1 rfl) ?_
      refine lv_iload hx hb dX1_run_146 (lv_at hl 0 rfl) ?_
      refine lv_iadd hx hb dX1_run_148 ?_
      refine lv_istore (lv' := [(7, .int (g2 + g3)), (8, .int g3), (6, .int (nI d)), (0, .ref h0), (1, .int b), (2, .ref q), (3, .ref pl), (4, .ref pr), (5, .int (nI i))]) hx hb dX1_run_149 hl (by decide) rfl (fun ls hl => ?_)
      refine lv_iconst (v := 2) hx hb dX1_run_151 (by decide) ?_
      refine sd_newI hx hb hts hK hP hD hS hA 2 (by decide) (by decide) (by decide) (by show _ ≤ 99; omega) (by show _ ≤ 388; omega) dX1_run_152 (fun nx H hP hD hS => ?_)
      have hP : va_P (dC, dI) sd_cl [(h0, .inr (1, [.ref k, .ref x, .ref y])), (k, .inl (cI, 32, .inl kf)), (x, .inl (cI, 16, .inl bf)), (y, .inl (cI, 16, .inl of)), (q, .inl (cI, 32, .inl K)), (pl, .inl (cI, 2, .inl fl)), (pr, .inl (cI, 2, .inl fr)), (nx, .inl (cI, 2, .inl (fun _ => 0)))] H := hP
      have hD : va_D A [(h0, .inr (1, [.ref k, .ref x, .ref y])), (k, .inl (cI, 32, .inl kf)), (x, .inl (cI, 16, .inl bf)), (y, .inl (cI, 16, .inl of)), (q, .inl (cI, 32, .inl K)), (pl, .inl (cI, 2, .inl fl)), (pr, .inl (cI, 2, .inl fr)), (nx, .inl (cI, 2, .inl (fun _ => 0)))] := hD
      refine lv_dup hx hb dX1_run_154 rfl ?_
      refine lv_iconst (v := 0) hx hb dX1_run_155 (by decide) ?_
      refine lv_aload_n hx hb dX1_run_156 rfl (lv_at hl 6 rfl) ?_
      refine lv_iconst (v := 0) hx hb dX1_run_157 (by decide) ?_
      refine sd_iald hx hb hK hP 5 1 rfl rfl (k := 0) (by decide) (by decide) (by decide) dX1_run_158 ?_
      refine sd_top (y := l0) (e0) ?_
      refine lv_iload hx hb dX1_run_159 (lv_at hl 0 rfl) ?_
      refine lv_ixor hx hb dX1_run_161 ?_
      refine sd_iast hx hb hK hP hD hS 7 1 rfl rfl (k := 0) (by decide) (by decide) (by decide) dX1_run_162 (fun H locs hP hD hS => ?_)
      have hP : va_P (dC, dI) sd_cl [(h0, .inr (1, [.ref k, .ref x, .ref y])), (k, .inl (cI, 32, .inl kf)), (x, .inl (cI, 16, .inl bf)), (y, .inl (cI, 16, .inl of)), (q, .inl (cI, 32, .inl K)), (pl, .inl (cI, 2, .inl fl)), (pr, .inl (cI, 2, .inl fr)), (nx, .inl (cI, 2, .inl (upd (fun _ => 0) 0 (l0 ^^^ (g2 + g3)))))] H := hP
      have hD : va_D A [(h0, .inr (1, [.ref k, .ref x, .ref y])), (k, .inl (cI, 32, .inl kf)), (x, .inl (cI, 16, .inl bf)), (y, .inl (cI, 16, .inl of)), (q, .inl (cI, 32, .inl K)), (pl, .inl (cI, 2, .inl fl)), (pr, .inl (cI, 2, .inl fr)), (nx, .inl (cI, 2, .inl (upd (fun _ => 0) 0 (l0 ^^^ (g2 + g3)))))] := hD
      refine lv_dup hx hb dX1_run_163 rfl ?_
      refine lv_iconst (v := 1) hx hb dX1_run_164 (by decide) ?_
      refine lv_aload_n hx hb dX1_run_165 rfl (lv_at hl 6 rfl) ?_
      refine lv_iconst (v := 1) hx hb dX1_run_166 (by decide) ?_
      refine sd_iald hx hb hK hP 5 1 rfl rfl (k := 1) (by decide) (by decide) (by decide) dX1_run_167 ?_
      refine sd_top (y := l1) (e1) ?_
      refine lv_iload hx hb dX1_run_168 (lv_at hl 1 rfl) ?_
      refine lv_ixor hx hb dX1_run_170 ?_
      refine sd_iast hx hb hK hP hD hS 7 1 rfl rfl (k := 1) (by decide) (by decide) (by decide) dX1_run_171 (fun H locs hP hD hS => ?_)
      have hP : va_P (dC, dI) sd_cl [(h0, .inr (1, [.ref k, .ref x, .ref y])), (k, .inl (cI, 32, .inl kf)), (x, .inl (cI, 16, .inl bf)), (y, .inl (cI, 16, .inl of)), (q, .inl (cI, 32, .inl K)), (pl, .inl (cI, 2, .inl fl)), (pr, .inl (cI, 2, .inl fr)), (nx, .inl (cI, 2, .inl (upd (upd (fun _ => 0) 0 (l0 ^^^ (g2 + g3))) 1 (l1 ^^^ g3))))] H := hP
      have hD : va_D A [(h0, .inr (1, [.ref k, .ref x, .ref y])), (k, .inl (cI, 32, .inl kf)), (x, .inl (cI, 16, .inl bf)), (y, .inl (cI, 16, .inl of)), (q, .inl (cI, 32, .inl K)), (pl, .inl (cI, 2, .inl fl)), (pr, .inl (cI, 2, .inl fr)), (nx, .inl (cI, 2, .inl (upd (upd (fun _ => 0) 0 (l0 ^^^ (g2 + g3))) 1 (l1 ^^^ g3))))] := hD
      refine lv_astore (lv' := [(9, .ref nx), (7, .int (g2 + g3)), (8, .int g3), (6, .int (nI d)), (0, .ref h0), (1, .int b), (2, .ref q), (3, .ref pl), (4, .ref pr), (5, .int (nI i))]) hx hb dX1_run_172 hl (by decide) rfl (fun ls hl => ?_)
      refine lv_aload hx hb dX1_run_174 (lv_at hl 8 rfl) ?_
      refine lv_astore_n (lv' := [(3, .ref pr), (9, .ref nx), (7, .int (g2 + g3)), (8, .int g3), (6, .int (nI d)), (0, .ref h0), (1, .int b), (2, .ref q), (4, .ref pr), (5, .int (nI i))]) hx hb dX1_run_176 rfl hl (by decide) rfl (fun ls hl => ?_)
      refine lv_aload hx hb dX1_run_177 (lv_at hl 1 rfl) ?_
      refine lv_astore (lv' := [(4, .ref nx), (3, .ref pr), (9, .ref nx), (7, .int (g2 + g3)), (8, .int g3), (6, .int (nI d)), (0, .ref h0), (1, .int b), (2, .ref q), (5, .int (nI i))]) hx hb dX1_run_179 hl (by decide) rfl (fun ls hl => ?_)
      refine lv_iinc (v := (nI (i + 1))) (lv' := [(5, .int (nI (i + 1))), (4, .ref nx), (3, .ref pr), (9, .ref nx), (7, .int (g2 + g3)), (8, .int g3), (6, .int (nI d)), (0, .ref h0), (1, .int b), (2, .ref q)]) hx hb dX1_run_181 hl (k := 9) rfl (nI_1 i) (by decide) rfl (fun ls hl => ?_)
      refine lv_goto (tgt := 63) hx hb dX1_run_184 (by decide) ?_
      refine W.widen (k := 35 + 4 * (i + 1)) (n := 164 + 14 * (i + 1)) (by omega) (by omega) ?_
      exact ih (i + 1) r0 r1 _ _ pr nx fr _ H locs ls (by omega) hq1 ⟨e2, e3, (sd_u0 _ _ _).trans (by rw [← hf1, ← hf2, Int32.add_comm g3 g2]), (sd_u1 _ _ _).trans (by rw [← hf2])⟩ (hP.sub [0, 1, 2, 3, 4, 6, 7] rfl) (hD.sub [0, 1, 2, 3, 4, 6, 7] (by decide) rfl) hS (lv_sub hl [7, 8, 9, 2, 1, 0] rfl)
    refine lv_iload hx hb dX1_run_63 (lv_at hl 5 rfl) ?_
    refine lv_bipush (v := 16) hx hb dX1_run_65 (by decide) ?_
    refine lv_icmp_ge (tgt := 187) hx hb dX1_run_67 (by decide) (fun h => absurd h (sd_g16 i (by omega))) (fun _ => ?_)
    refine lv_iload_n hx hb dX1_run_70 rfl (lv_at hl 1 rfl) ?_
    refine lv_if_eq (tgt := 79) hx hb dX1_run_71 (by decide) (fun hbb => ?_) (fun hbb => ?_)
    · skip
      refine lv_bipush (v := 15) hx hb dX1_run_79 (by decide) ?_
      refine lv_iload hx hb dX1_run_81 (lv_at hl 5 rfl) ?_
      refine lv_isub hx hb dX1_run_83 ?_
      refine sd_top (y := (nI (sd_or b i))) (by rw [show sd_or b i = 15 - i from if_pos hbb]; exact pk_sub (a := 15) (b := i) (by omega)) ?_
      exact join ls hl
    · skip
      refine lv_iload hx hb dX1_run_74 (lv_at hl 5 rfl) ?_
      refine sd_top (y := (nI (sd_or b i))) (by rw [show sd_or b i = i from if_neg hbb]) ?_
      refine lv_goto (tgt := 84) hx hb dX1_run_76 (by decide) ?_
      exact join ls hl
end SDM4
theorem sd_runend {b : Int32} {kf bf of K : Nat → Int32} {l0 l1 r0 r1 : Int32} (hK : ∀ j, j < 32 → K j = sd_rk (sd_w4 kf 0) (sd_w4 kf 4) (sd_w4 kf 8) (sd_w4 kf 12) j) (hq : sd_rs K (sd_or b) (sd_w4 bf 0, sd_w4 bf 4, sd_w4 bf 8, sd_w4 bf 12) 16 = (l0, l1, r0, r1)) : ∀ j, j < 16 → sd_put (sd_put (sd_put (sd_put of 0 r0) 4 r1) 8 l0) 12 l1 j = sd_ans b kf bf j := by
  intro j hj
  have hf : sd_fin b kf bf = (l0, l1, r0, r1) := by
    unfold sd_fin
    rw [← sd_rs_congr 16 hK (fun k hk => sd_or_lt b hk) 16 (Nat.le_refl _)]
    exact hq
  unfold sd_ans
  rw [hf]
  unfold sd_put
  rcases (show j < 4 ∨ (4 ≤ j ∧ j < 8) ∨ (8 ≤ j ∧ j < 12) ∨ 12 ≤ j by omega) with z | z | z | z
  · rw [if_neg (by omega), if_neg (by omega), if_neg (by omega), if_pos (by omega), if_pos z]
    rfl
  · rw [if_neg (by omega), if_neg (by omega), if_pos (by omega), if_neg (by omega), if_pos z.2]
  · rw [if_neg (by omega), if_pos (by omega), if_neg (by omega), if_neg (by omega), if_pos z.2]
  · rw [if_pos (by omega), if_neg (by omega), if_neg (by omega), if_neg (by omega)]
end
section
/-! ===== SeedDeskModel.run ===== -/
set_option maxHeartbeats 4000000 in
set_option maxRecDepth 100000 in
/-- run(b) -/
theorem mt_run (l : Launch) (dC : Nat → ClassId) (dI : Nat → Nat → Nat) (cB cI : ClassId) (h0 k x y : Nat) (b : Int32) (kf bf of : Nat → Int32) (sz : Nat) : Met l yX1_run (ws_ yX1_run cX1_run 10 none) ({ frames := 2, cells := 99, slots := 388, locals := 53 } : Room) (va_Pc [.ref h0, .int b] (sd_pre (dC, dI) cB cI [(h0, .inr (1, [.ref k, .ref x, .ref y])), (k, .inl (cI, 32, .inl kf)), (x, .inl (cI, 16, .inl bf)), (y, .inl (cI, 16, .inl of))] sz)) (va_Qv (fun u : Nat → Int32 => ∀ j, j < 16 → u j = sd_ans b kf bf j) (fun u t => va_P (dC, dI) sd_cl [(h0, .inr (1, [.ref k, .ref x, .ref y])), (k, .inl (cI, 32, .inl kf)), (x, .inl (cI, 16, .inl bf)), (y, .inl (cI, 16, .inl u))] t.heap ∧ va_D (va_A [(h0, .inr (1, [.ref k, .ref x, .ref y])), (k, .inl (cI, 32, .inl kf)), (x, .inl (cI, 16, .inl bf)), (y, .inl (cI, 16, .inl of))] sz) [(h0, .inr (1, [.ref k, .ref x, .ref y])), (k, .inl (cI, 32, .inl kf)), (x, .inl (cI, 16, .inl bf)), (y, .inl (cI, 16, .inl u))]) (va_A [(h0, .inr (1, [.ref k, .ref x, .ref y])), (k, .inl (cI, 32, .inl kf)), (x, .inl (cI, 16, .inl bf)), (y, .inl (cI, 16, .inl of))] sz)) 99 388 (va_A [(h0, .inr (1, [.ref k, .ref x, .ref y])), (k, .inl (cI, 32, .inl kf)), (x, .inl (cI, 16, .inl bf)), (y, .inl (cI, 16, .inl of))] sz) := by
  refine sd_metW (Qc := fun A => va_Qv (fun u : Nat → Int32 => ∀ j, j < 16 → u j = sd_ans b kf bf j) (fun u t => va_P (dC, dI) sd_cl [(h0, .inr (1, [.ref k, .ref x, .ref y])), (k, .inl (cI, 32, .inl kf)), (x, .inl (cI, 16, .inl bf)), (y, .inl (cI, 16, .inl u))] t.heap ∧ va_D A [(h0, .inr (1, [.ref k, .ref x, .ref y])), (k, .inl (cI, 32, .inl kf)), (x, .inl (cI, 16, .inl bf)), (y, .inl (cI, 16, .inl u))]) A) (by decide) (Nat.le_of_ble_eq_true rfl) ?_
  intro p e s m below meth c ls A hx hb hr hml hts hown hlocks hname hP hK hD hV hA hS hl
  have hown : s.vm.findClass RX1 = some m.cls := hown
  have hl : lv_has ls 10 [(0, .ref h0), (1, .int b)] := hl
  refine lv_aload_n hx hb dX1_run_0 rfl (lv_at hl 0 rfl) ?_
  have hPc := hP.sub (ws' := [(h0, .inr (1, [.ref k, .ref x, .ref y])), (k, .inl (cI, 32, .inl kf))]) [0, 1] rfl
  have hDc := hD.sub (ws' := [(h0, .inr (1, [.ref k, .ref x, .ref y])), (k, .inl (cI, 32, .inl kf))]) [0, 1] (by decide) rfl
  have hFc := va_free (wc := [(h0, .inr (1, [.ref k, .ref x, .ref y])), (k, .inl (cI, 32, .inl kf))]) hD hS hA [0, 1] rfl
  refine va_callr (va_runV (As := []) (rest := []) ⟨hx, hb, hml, hown, hts⟩ (mt_rounds l dC dI cB cI h0 k x y kf s.heap.size) (cwV 0 hts (lw_V q353 q355 qs14 q17 q356) rfl rfl rfl (by decide +kernel) ⟨Nat.le_of_ble_eq_true rfl, Nat.le_of_ble_eq_true rfl⟩) (sd_preV (va_recv hK hP (ci := 1) (q0 := 0) rfl rfl) hK hV hS hPc hDc hFc) rfl rfl hl.1 rfl (lv_room (Nat.le_of_ble_eq_true rfl)) dX1_run_1 ⟨Nat.le_of_ble_eq_true rfl, Nat.le_of_ble_eq_true rfl⟩) hS (fun q _ h => hFc q h) hFc (fun K q t H locs ht hvm hK2 hB hz1 hk1 hS => ?_)
  obtain ⟨hP1, hD1⟩ := hB
  rw [ht] at hP1
  obtain ⟨hP, hD⟩ := va_join (wr := [(x, .inl (cI, 16, .inl bf)), (y, .inl (cI, 16, .inl of))]) (w1 := [(h0, .inr (1, [.ref k, .ref x, .ref y])), (k, .inl (cI, 32, .inl kf)), (q, .inl (cI, 32, .inl K))]) hP hD [0, 1] [2, 3] rfl rfl (by decide) (by decide) hk1 hFc hP1 hD1
  have hP : va_P (dC, dI) sd_cl [(x, .inl (cI, 16, .inl bf)), (y, .inl (cI, 16, .inl of)), (h0, .inr (1, [.ref k, .ref x, .ref y])), (k, .inl (cI, 32, .inl kf)), (q, .inl (cI, 32, .inl K))] H := hP
  have hD : va_D A [(x, .inl (cI, 16, .inl bf)), (y, .inl (cI, 16, .inl of)), (h0, .inr (1, [.ref k, .ref x, .ref y])), (k, .inl (cI, 32, .inl kf)), (q, .inl (cI, 32, .inl K))] := hD
  refine lv_astore_n (lv' := [(2, .ref q), (0, .ref h0), (1, .int b)]) hx hb dX1_run_4 rfl hl (by decide) rfl (fun ls hl => ?_)
  refine lv_iconst (v := 2) hx hb dX1_run_5 (by decide) ?_
  refine sd_newI hx hb hts hK hP hD hS hA 2 (by decide) (by decide) (by decide) (Nat.le_of_ble_eq_true rfl) (Nat.le_of_ble_eq_true rfl) dX1_run_6 (fun pl H hP hD hS => ?_)
  have hP : va_P (dC, dI) sd_cl [(x, .inl (cI, 16, .inl bf)), (y, .inl (cI, 16, .inl of)), (h0, .inr (1, [.ref k, .ref x, .ref y])), (k, .inl (cI, 32, .inl kf)), (q, .inl (cI, 32, .inl K)), (pl, .inl (cI, 2, .inl (fun _ => 0)))] H := hP
  have hD : va_D A [(x, .inl (cI, 16, .inl bf)), (y, .inl (cI, 16, .inl of)), (h0, .inr (1, [.ref k, .ref x, .ref y])), (k, .inl (cI, 32, .inl kf)), (q, .inl (cI, 32, .inl K)), (pl, .inl (cI, 2, .inl (fun _ => 0)))] := hD
  refine lv_dup hx hb dX1_run_8 rfl ?_
  refine lv_iconst (v := 0) hx hb dX1_run_9 (by decide) ?_
  refine lv_aload_n hx hb dX1_run_10 rfl (lv_at hl 1 rfl) ?_
  refine va_get (D := (dC, dI)) (ci := 1) (v := .ref x) (C := RX1) (T := TX1) (N := 3) hx hb hts in_X1 hown hK hP 2 rfl rfl 1 (by decide) (hts _ q325) (fun _ h9 => h9) rfl dX1_run_11 ?_
  refine lv_iconst (v := 0) hx hb dX1_run_14 (by decide) ?_
  refine vp_callSi (va_runS (As := [.ref x, .int 0]) (rest := [.int 0, .ref pl, .ref pl]) ⟨hx, hb, hml, hown, hts⟩ (mt_four l dC dI cB cI x 0 16 (by decide) (by decide) bf) (va_cwS 2 hts (lw_S q357 q358 q17 q359) rfl rfl rfl (by decide +kernel) ⟨Nat.le_of_ble_eq_true rfl, Nat.le_of_ble_eq_true rfl⟩) (sd_purS hK hV hS (hP.sub [0] rfl)) rfl rfl hl.1 rfl (lv_room (Nat.le_of_ble_eq_true rfl)) dX1_run_15 ⟨Nat.le_of_ble_eq_true rfl, Nat.le_of_ble_eq_true rfl⟩).run (fun r0 hr0 => ?_)
  refine sd_top (y := (sd_w4 bf 0)) (hr0) ?_
  refine sd_iast hx hb hK hP hD hS 5 1 rfl rfl (k := 0) (by decide) (by decide) (by decide) dX1_run_18 (fun H locs hP hD hS => ?_)
  have hP : va_P (dC, dI) sd_cl [(x, .inl (cI, 16, .inl bf)), (y, .inl (cI, 16, .inl of)), (h0, .inr (1, [.ref k, .ref x, .ref y])), (k, .inl (cI, 32, .inl kf)), (q, .inl (cI, 32, .inl K)), (pl, .inl (cI, 2, .inl (upd (fun _ => 0) 0 (sd_w4 bf 0))))] H := hP
  have hD : va_D A [(x, .inl (cI, 16, .inl bf)), (y, .inl (cI, 16, .inl of)), (h0, .inr (1, [.ref k, .ref x, .ref y])), (k, .inl (cI, 32, .inl kf)), (q, .inl (cI, 32, .inl K)), (pl, .inl (cI, 2, .inl (upd (fun _ => 0) 0 (sd_w4 bf 0))))] := hD
  refine lv_dup hx hb dX1_run_19 rfl ?_
  refine lv_iconst (v := 1) hx hb dX1_run_20 (by decide) ?_
  refine lv_aload_n hx hb dX1_run_21 rfl (lv_at hl 1 rfl) ?_
  refine va_get (D := (dC, dI)) (ci := 1) (v := .ref x) (C := RX1) (T := TX1) (N := 3) hx hb hts in_X1 hown hK hP 2 rfl rfl 1 (by decide) (hts _ q325) (fun _ h9 => h9) rfl dX1_run_22 ?_
  refine lv_iconst (v := 4) hx hb dX1_run_25 (by decide) ?_
  refine vp_callSi (va_runS (As := [.ref x, .int 4]) (rest := [.int 1, .ref pl, .ref pl]) ⟨hx, hb, hml, hown, hts⟩ (mt_four l dC dI cB cI x 4 16 (by decide) (by decide) bf) (va_cwS 2 hts (lw_S q357 q358 q17 q359) rfl rfl rfl (by decide +kernel) ⟨Nat.le_of_ble_eq_true rfl, Nat.le_of_ble_eq_true rfl⟩) (sd_purS hK hV hS (hP.sub [0] rfl)) rfl rfl hl.1 rfl (lv_room (Nat.le_of_ble_eq_true rfl)) dX1_run_26 ⟨Nat.le_of_ble_eq_true rfl, Nat.le_of_ble_eq_true rfl⟩).run (fun r4 hr4 => ?_)
  refine sd_top (y := (sd_w4 bf 4)) (hr4) ?_
  refine sd_iast hx hb hK hP hD hS 5 1 rfl rfl (k := 1) (by decide) (by decide) (by decide) dX1_run_29 (fun H locs hP hD hS => ?_)
  have hP : va_P (dC, dI) sd_cl [(x, .inl (cI, 16, .inl bf)), (y, .inl (cI, 16, .inl of)), (h0, .inr (1, [.ref k, .ref x, .ref y])), (k, .inl (cI, 32, .inl kf)), (q, .inl (cI, 32, .inl K)), (pl, .inl (cI, 2, .inl (upd (upd (fun _ => 0) 0 (sd_w4 bf 0)) 1 (sd_w4 bf 4))))] H := hP
  have hD : va_D A [(x, .inl (cI, 16, .inl bf)), (y, .inl (cI, 16, .inl of)), (h0, .inr (1, [.ref k, .ref x, .ref y])), (k, .inl (cI, 32, .inl kf)), (q, .inl (cI, 32, .inl K)), (pl, .inl (cI, 2, .inl (upd (upd (fun _ => 0) 0 (sd_w4 bf 0)) 1 (sd_w4 bf 4))))] := hD
  refine lv_astore_n (lv' := [(3, .ref pl), (2, .ref q), (0, .ref h0), (1, .int b)]) hx hb dX1_run_30 rfl hl (by decide) rfl (fun ls hl => ?_)
  refine lv_iconst (v := 2) hx hb dX1_run_31 (by decide) ?_
  refine sd_newI hx hb hts hK hP hD hS hA 2 (by decide) (by decide) (by decide) (Nat.le_of_ble_eq_true rfl) (Nat.le_of_ble_eq_true rfl) dX1_run_32 (fun pr H hP hD hS => ?_)
  have hP : va_P (dC, dI) sd_cl [(x, .inl (cI, 16, .inl bf)), (y, .inl (cI, 16, .inl of)), (h0, .inr (1, [.ref k, .ref x, .ref y])), (k, .inl (cI, 32, .inl kf)), (q, .inl (cI, 32, .inl K)), (pl, .inl (cI, 2, .inl (upd (upd (fun _ => 0) 0 (sd_w4 bf 0)) 1 (sd_w4 bf 4)))), (pr, .inl (cI, 2, .inl (fun _ => 0)))] H := hP
  have hD : va_D A [(x, .inl (cI, 16, .inl bf)), (y, .inl (cI, 16, .inl of)), (h0, .inr (1, [.ref k, .ref x, .ref y])), (k, .inl (cI, 32, .inl kf)), (q, .inl (cI, 32, .inl K)), (pl, .inl (cI, 2, .inl (upd (upd (fun _ => 0) 0 (sd_w4 bf 0)) 1 (sd_w4 bf 4)))), (pr, .inl (cI, 2, .inl (fun _ => 0)))] := hD
  refine lv_dup hx hb dX1_run_34 rfl ?_
  refine lv_iconst (v := 0) hx hb dX1_run_35 (by decide) ?_
  refine lv_aload_n hx hb dX1_run_36 rfl (lv_at hl 2 rfl) ?_
  refine va_get (D := (dC, dI)) (ci := 1) (v := .ref x) (C := RX1) (T := TX1) (N := 3) hx hb hts in_X1 hown hK hP 2 rfl rfl 1 (by decide) (hts _ q325) (fun _ h9 => h9) rfl dX1_run_37 ?_
  refine lv_bipush (v := 8) hx hb dX1_run_40 (by decide) ?_
  refine vp_callSi (va_runS (As := [.ref x, .int 8]) (rest := [.int 0, .ref pr, .ref pr]) ⟨hx, hb, hml, hown, hts⟩ (mt_four l dC dI cB cI x 8 16 (by decide) (by decide) bf) (va_cwS 2 hts (lw_S q357 q358 q17 q359) rfl rfl rfl (by decide +kernel) ⟨Nat.le_of_ble_eq_true rfl, Nat.le_of_ble_eq_true rfl⟩) (sd_purS hK hV hS (hP.sub [0] rfl)) rfl rfl hl.1 rfl (lv_room (Nat.le_of_ble_eq_true rfl)) dX1_run_42 ⟨Nat.le_of_ble_eq_true rfl, Nat.le_of_ble_eq_true rfl⟩).run (fun r8 hr8 => ?_)
  refine sd_top (y := (sd_w4 bf 8)) (hr8) ?_
  refine sd_iast hx hb hK hP hD hS 6 1 rfl rfl (k := 0) (by decide) (by decide) (by decide) dX1_run_45 (fun H locs hP hD hS => ?_)
  have hP : va_P (dC, dI) sd_cl [(x, .inl (cI, 16, .inl bf)), (y, .inl (cI, 16, .inl of)), (h0, .inr (1, [.ref k, .ref x, .ref y])), (k, .inl (cI, 32, .inl kf)), (q, .inl (cI, 32, .inl K)), (pl, .inl (cI, 2, .inl (upd (upd (fun _ => 0) 0 (sd_w4 bf 0)) 1 (sd_w4 bf 4)))), (pr, .inl (cI, 2, .inl (upd (fun _ => 0) 0 (sd_w4 bf 8))))] H := hP
  have hD : va_D A [(x, .inl (cI, 16, .inl bf)), (y, .inl (cI, 16, .inl of)), (h0, .inr (1, [.ref k, .ref x, .ref y])), (k, .inl (cI, 32, .inl kf)), (q, .inl (cI, 32, .inl K)), (pl, .inl (cI, 2, .inl (upd (upd (fun _ => 0) 0 (sd_w4 bf 0)) 1 (sd_w4 bf 4)))), (pr, .inl (cI, 2, .inl (upd (fun _ => 0) 0 (sd_w4 bf 8))))] := hD
  refine lv_dup hx hb dX1_run_46 rfl ?_
  refine lv_iconst (v := 1) hx hb dX1_run_47 (by decide) ?_
  refine lv_aload_n hx hb dX1_run_48 rfl (lv_at hl 2 rfl) ?_
  refine va_get (D := (dC, dI)) (ci := 1) (v := .ref x) (C := RX1) (T := TX1) (N := 3) hx hb hts in_X1 hown hK hP 2 rfl rfl 1 (by decide) (hts _ q325) (fun _ h9 => h9) rfl dX1_run_49 ?_
  refine lv_bipush (v := 12) hx hb dX1_run_52 (by decide) ?_
  refine vp_callSi (va_runS (As := [.ref x, .int 12]) (rest := [.int 1, .ref pr, .ref pr]) ⟨hx, hb, hml, hown, hts⟩ (mt_four l dC dI cB cI x 12 16 (by decide) (by decide) bf) (va_cwS 2 hts (lw_S q357 q358 q17 q359) rfl rfl rfl (by decide +kernel) ⟨Nat.le_of_ble_eq_true rfl, Nat.le_of_ble_eq_true rfl⟩) (sd_purS hK hV hS (hP.sub [0] rfl)) rfl rfl hl.1 rfl (lv_room (Nat.le_of_ble_eq_true rfl)) dX1_run_54 ⟨Nat.le_of_ble_eq_true rfl, Nat.le_of_ble_eq_true rfl⟩).run (fun r12 hr12 => ?_)
  refine sd_top (y := (sd_w4 bf 12)) (hr12) ?_
  refine sd_iast hx hb hK hP hD hS 6 1 rfl rfl (k := 1) (by decide) (by decide) (by decide) dX1_run_57 (fun H locs hP hD hS => ?_)
  have hP : va_P (dC, dI) sd_cl [(x, .inl (cI, 16, .inl bf)), (y, .inl (cI, 16, .inl of)), (h0, .inr (1, [.ref k, .ref x, .ref y])), (k, .inl (cI, 32, .inl kf)), (q, .inl (cI, 32, .inl K)), (pl, .inl (cI, 2, .inl (upd (upd (fun _ => 0) 0 (sd_w4 bf 0)) 1 (sd_w4 bf 4)))), (pr, .inl (cI, 2, .inl (upd (upd (fun _ => 0) 0 (sd_w4 bf 8)) 1 (sd_w4 bf 12))))] H := hP
  have hD : va_D A [(x, .inl (cI, 16, .inl bf)), (y, .inl (cI, 16, .inl of)), (h0, .inr (1, [.ref k, .ref x, .ref y])), (k, .inl (cI, 32, .inl kf)), (q, .inl (cI, 32, .inl K)), (pl, .inl (cI, 2, .inl (upd (upd (fun _ => 0) 0 (sd_w4 bf 0)) 1 (sd_w4 bf 4)))), (pr, .inl (cI, 2, .inl (upd (upd (fun _ => 0) 0 (sd_w4 bf 8)) 1 (sd_w4 bf 12))))] := hD
  refine lv_astore (lv' := [(4, .ref pr), (3, .ref pl), (2, .ref q), (0, .ref h0), (1, .int b)]) hx hb dX1_run_58 hl (by decide) rfl (fun ls hl => ?_)
  refine lv_iconst (v := 0) hx hb dX1_run_60 (by decide) ?_
  refine lv_istore (lv' := [(5, .int 0), (4, .ref pr), (3, .ref pl), (2, .ref q), (0, .ref h0), (1, .int b)]) hx hb dX1_run_61 hl (by decide) rfl (fun ls hl => ?_)
  refine W.widen (k := 35 + 4 * 0) (n := 164 + 14 * 0) (by first | omega | (dsimp only; omega)) (by first | omega | (dsimp only; omega)) ?_
  refine lp_run (w4 := (sd_w4 bf 0, sd_w4 bf 4, sd_w4 bf 8, sd_w4 bf 12)) hx hb hml hown hts hK hV hA (fun l0 l1 r0 r1 pl pr fl fr H locs ls hq he hP hD hS hl => ?_) 16 0 (sd_w4 bf 0) (sd_w4 bf 4) (sd_w4 bf 8) (sd_w4 bf 12) pl pr (upd (upd (fun _ => 0) 0 (sd_w4 bf 0)) 1 (sd_w4 bf 4)) (upd (upd (fun _ => 0) 0 (sd_w4 bf 8)) 1 (sd_w4 bf 12)) H _ ls rfl rfl ⟨sd_u0 _ _ _, sd_u1 _ _ _, sd_u0 _ _ _, sd_u1 _ _ _⟩ (hP.sub [2, 3, 0, 1, 4, 5, 6] rfl) (hD.sub [2, 3, 0, 1, 4, 5, 6] (by decide) rfl) hS (lv_sub hl [4, 5, 3, 2, 1, 0] rfl)
  obtain ⟨e0, e1, e2, e3⟩ := he
  refine lv_aload_n hx hb dX1_run_187 rfl (lv_at hl 0 rfl) ?_
  refine va_get (D := (dC, dI)) (ci := 1) (v := .ref y) (C := RX1) (T := TX1) (N := 3) hx hb hts in_X1 hown hK hP 0 rfl rfl 2 (by decide) (hts _ q326) (fun _ h9 => h9) rfl dX1_run_188 ?_
  refine lv_iconst (v := 0) hx hb dX1_run_191 (by decide) ?_
  refine lv_aload hx hb dX1_run_192 (lv_at hl 4 rfl) ?_
  refine lv_iconst (v := 0) hx hb dX1_run_194 (by decide) ?_
  refine sd_iald hx hb hK hP 6 1 rfl rfl (k := 0) (by decide) (by decide) (by decide) dX1_run_195 ?_
  refine sd_top (y := r0) (e2) ?_
  have hPc := hP.sub (ws' := [(y, .inl (cI, 16, .inl of))]) [3] rfl
  have hDc := hD.sub (ws' := [(y, .inl (cI, 16, .inl of))]) [3] (by decide) rfl
  have hFc := va_free (wc := [(y, .inl (cI, 16, .inl of))]) hD hS hA [3] rfl
  refine va_callv (va_runS (As := [.ref y, .int 0, .int r0]) (rest := []) ⟨hx, hb, hml, hown, hts⟩ (mt_word l dC dI cB cI y 0 16 (by decide) (by decide) of r0 H.size) (va_cwS 3 hts (lw_S q338 q339 q17 q340) rfl rfl rfl (by decide +kernel) ⟨Nat.le_of_ble_eq_true rfl, Nat.le_of_ble_eq_true rfl⟩) (sd_preS hK hV hS hPc hDc hFc) rfl rfl hl.1 rfl (lv_room (Nat.le_of_ble_eq_true rfl)) dX1_run_196 ⟨Nat.le_of_ble_eq_true rfl, Nat.le_of_ble_eq_true rfl⟩) hS (fun q _ h => hFc q h) hFc (fun u1 t H locs ht hvm hu1 hB hz1 hk1 hS => ?_)
  obtain ⟨hP1, hD1⟩ := hB
  rw [ht] at hP1
  obtain ⟨hP, hD⟩ := va_join (wr := [(h0, .inr (1, [.ref k, .ref x, .ref y])), (k, .inl (cI, 32, .inl kf)), (x, .inl (cI, 16, .inl bf)), (q, .inl (cI, 32, .inl K)), (pl, .inl (cI, 2, .inl fl)), (pr, .inl (cI, 2, .inl fr))]) (w1 := [(y, .inl (cI, 16, .inl u1))]) hP hD [3] [0, 1, 2, 4, 5, 6] rfl rfl (by decide) (by decide) hk1 hFc hP1 hD1
  have hP : va_P (dC, dI) sd_cl [(h0, .inr (1, [.ref k, .ref x, .ref y])), (k, .inl (cI, 32, .inl kf)), (x, .inl (cI, 16, .inl bf)), (q, .inl (cI, 32, .inl K)), (pl, .inl (cI, 2, .inl fl)), (pr, .inl (cI, 2, .inl fr)), (y, .inl (cI, 16, .inl u1))] H := hP
  have hD : va_D A [(h0, .inr (1, [.ref k, .ref x, .ref y])), (k, .inl (cI, 32, .inl kf)), (x, .inl (cI, 16, .inl bf)), (q, .inl (cI, 32, .inl K)), (pl, .inl (cI, 2, .inl fl)), (pr, .inl (cI, 2, .inl fr)), (y, .inl (cI, 16, .inl u1))] := hD
  refine lv_aload_n hx hb dX1_run_199 rfl (lv_at hl 0 rfl) ?_
  refine va_get (D := (dC, dI)) (ci := 1) (v := .ref y) (C := RX1) (T := TX1) (N := 3) hx hb hts in_X1 hown hK hP 0 rfl rfl 2 (by decide) (hts _ q326) (fun _ h9 => h9) rfl dX1_run_200 ?_
  refine lv_iconst (v := 4) hx hb dX1_run_203 (by decide) ?_
  refine lv_aload hx hb dX1_run_204 (lv_at hl 4 rfl) ?_
  refine lv_iconst (v := 1) hx hb dX1_run_206 (by decide) ?_
  refine sd_iald hx hb hK hP 5 1 rfl rfl (k := 1) (by decide) (by decide) (by decide) dX1_run_207 ?_
  refine sd_top (y := r1) (e3) ?_
  have hPc := hP.sub (ws' := [(y, .inl (cI, 16, .inl u1))]) [6] rfl
  have hDc := hD.sub (ws' := [(y, .inl (cI, 16, .inl u1))]) [6] (by decide) rfl
  have hFc := va_free (wc := [(y, .inl (cI, 16, .inl u1))]) hD hS hA [6] rfl
  refine va_callv (va_runS (As := [.ref y, .int 4, .int r1]) (rest := []) ⟨hx, hb, hml, hown, hts⟩ (mt_word l dC dI cB cI y 4 16 (by decide) (by decide) u1 r1 H.size) (va_cwS 3 hts (lw_S q338 q339 q17 q340) rfl rfl rfl (by decide +kernel) ⟨Nat.le_of_ble_eq_true rfl, Nat.le_of_ble_eq_true rfl⟩) (sd_preS hK hV hS hPc hDc hFc) rfl rfl hl.1 rfl (lv_room (Nat.le_of_ble_eq_true rfl)) dX1_run_208 ⟨Nat.le_of_ble_eq_true rfl, Nat.le_of_ble_eq_true rfl⟩) hS (fun q _ h => hFc q h) hFc (fun u2 t H locs ht hvm hu2 hB hz1 hk1 hS => ?_)
  obtain ⟨hP1, hD1⟩ := hB
  rw [ht] at hP1
  obtain ⟨hP, hD⟩ := va_join (wr := [(h0, .inr (1, [.ref k, .ref x, .ref y])), (k, .inl (cI, 32, .inl kf)), (x, .inl (cI, 16, .inl bf)), (q, .inl (cI, 32, .inl K)), (pl, .inl (cI, 2, .inl fl)), (pr, .inl (cI, 2, .inl fr))]) (w1 := [(y, .inl (cI, 16, .inl u2))]) hP hD [6] [0, 1, 2, 3, 4, 5] rfl rfl (by decide) (by decide) hk1 hFc hP1 hD1
  have hP : va_P (dC, dI) sd_cl [(h0, .inr (1, [.ref k, .ref x, .ref y])), (k, .inl (cI, 32, .inl kf)), (x, .inl (cI, 16, .inl bf)), (q, .inl (cI, 32, .inl K)), (pl, .inl (cI, 2, .inl fl)), (pr, .inl (cI, 2, .inl fr)), (y, .inl (cI, 16, .inl u2))] H := hP
  have hD : va_D A [(h0, .inr (1, [.ref k, .ref x, .ref y])), (k, .inl (cI, 32, .inl kf)), (x, .inl (cI, 16, .inl bf)), (q, .inl (cI, 32, .inl K)), (pl, .inl (cI, 2, .inl fl)), (pr, .inl (cI, 2, .inl fr)), (y, .inl (cI, 16, .inl u2))] := hD
  refine lv_aload_n hx hb dX1_run_211 rfl (lv_at hl 0 rfl) ?_
  refine va_get (D := (dC, dI)) (ci := 1) (v := .ref y) (C := RX1) (T := TX1) (N := 3) hx hb hts in_X1 hown hK hP 0 rfl rfl 2 (by decide) (hts _ q326) (fun _ h9 => h9) rfl dX1_run_212 ?_
  refine lv_bipush (v := 8) hx hb dX1_run_215 (by decide) ?_
  refine lv_aload_n hx hb dX1_run_217 rfl (lv_at hl 3 rfl) ?_
  refine lv_iconst (v := 0) hx hb dX1_run_218 (by decide) ?_
  refine sd_iald hx hb hK hP 4 1 rfl rfl (k := 0) (by decide) (by decide) (by decide) dX1_run_219 ?_
  refine sd_top (y := l0) (e0) ?_
  have hPc := hP.sub (ws' := [(y, .inl (cI, 16, .inl u2))]) [6] rfl
  have hDc := hD.sub (ws' := [(y, .inl (cI, 16, .inl u2))]) [6] (by decide) rfl
  have hFc := va_free (wc := [(y, .inl (cI, 16, .inl u2))]) hD hS hA [6] rfl
  refine va_callv (va_runS (As := [.ref y, .int 8, .int l0]) (rest := []) ⟨hx, hb, hml, hown, hts⟩ (mt_word l dC dI cB cI y 8 16 (by decide) (by decide) u2 l0 H.size) (va_cwS 3 hts (lw_S q338 q339 q17 q340) rfl rfl rfl (by decide +kernel) ⟨Nat.le_of_ble_eq_true rfl, Nat.le_of_ble_eq_true rfl⟩) (sd_preS hK hV hS hPc hDc hFc) rfl rfl hl.1 rfl (lv_room (Nat.le_of_ble_eq_true rfl)) dX1_run_220 ⟨Nat.le_of_ble_eq_true rfl, Nat.le_of_ble_eq_true rfl⟩) hS (fun q _ h => hFc q h) hFc (fun u3 t H locs ht hvm hu3 hB hz1 hk1 hS => ?_)
  obtain ⟨hP1, hD1⟩ := hB
  rw [ht] at hP1
  obtain ⟨hP, hD⟩ := va_join (wr := [(h0, .inr (1, [.ref k, .ref x, .ref y])), (k, .inl (cI, 32, .inl kf)), (x, .inl (cI, 16, .inl bf)), (q, .inl (cI, 32, .inl K)), (pl, .inl (cI, 2, .inl fl)), (pr, .inl (cI, 2, .inl fr))]) (w1 := [(y, .inl (cI, 16, .inl u3))]) hP hD [6] [0, 1, 2, 3, 4, 5] rfl rfl (by decide) (by decide) hk1 hFc hP1 hD1
  have hP : va_P (dC, dI) sd_cl [(h0, .inr (1, [.ref k, .ref x, .ref y])), (k, .inl (cI, 32, .inl kf)), (x, .inl (cI, 16, .inl bf)), (q, .inl (cI, 32, .inl K)), (pl, .inl (cI, 2, .inl fl)), (pr, .inl (cI, 2, .inl fr)), (y, .inl (cI, 16, .inl u3))] H := hP
  have hD : va_D A [(h0, .inr (1, [.ref k, .ref x, .ref y])), (k, .inl (cI, 32, .inl kf)), (x, .inl (cI, 16, .inl bf)), (q, .inl (cI, 32, .inl K)), (pl, .inl (cI, 2, .inl fl)), (pr, .inl (cI, 2, .inl fr)), (y, .inl (cI, 16, .inl u3))] := hD
  refine lv_aload_n hx hb dX1_run_223 rfl (lv_at hl 0 rfl) ?_
  refine va_get (D := (dC, dI)) (ci := 1) (v := .ref y) (C := RX1) (T := TX1) (N := 3) hx hb hts in_X1 hown hK hP 0 rfl rfl 2 (by decide) (hts _ q326) (fun _ h9 => h9) rfl dX1_run_224 ?_
  refine lv_bipush (v := 12) hx hb dX1_run_227 (by decide) ?_
  refine lv_aload_n hx hb dX1_run_229 rfl (lv_at hl 3 rfl) ?_
  refine lv_iconst (v := 1) hx hb dX1_run_230 (by decide) ?_
  refine sd_iald hx hb hK hP 4 1 rfl rfl (k := 1) (by decide) (by decide) (by decide) dX1_run_231 ?_
  refine sd_top (y := l1) (e1) ?_
  have hPc := hP.sub (ws' := [(y, .inl (cI, 16, .inl u3))]) [6] rfl
  have hDc := hD.sub (ws' := [(y, .inl (cI, 16, .inl u3))]) [6] (by decide) rfl
  have hFc := va_free (wc := [(y, .inl (cI, 16, .inl u3))]) hD hS hA [6] rfl
  refine va_callv (va_runS (As := [.ref y, .int 12, .int l1]) (rest := []) ⟨hx, hb, hml, hown, hts⟩ (mt_word l dC dI cB cI y 12 16 (by decide) (by decide) u3 l1 H.size) (va_cwS 3 hts (lw_S q338 q339 q17 q340) rfl rfl rfl (by decide +kernel) ⟨Nat.le_of_ble_eq_true rfl, Nat.le_of_ble_eq_true rfl⟩) (sd_preS hK hV hS hPc hDc hFc) rfl rfl hl.1 rfl (lv_room (Nat.le_of_ble_eq_true rfl)) dX1_run_232 ⟨Nat.le_of_ble_eq_true rfl, Nat.le_of_ble_eq_true rfl⟩) hS (fun q _ h => hFc q h) hFc (fun u4 t H locs ht hvm hu4 hB hz1 hk1 hS => ?_)
  obtain ⟨hP1, hD1⟩ := hB
  rw [ht] at hP1
  obtain ⟨hP, hD⟩ := va_join (wr := [(h0, .inr (1, [.ref k, .ref x, .ref y])), (k, .inl (cI, 32, .inl kf)), (x, .inl (cI, 16, .inl bf)), (q, .inl (cI, 32, .inl K)), (pl, .inl (cI, 2, .inl fl)), (pr, .inl (cI, 2, .inl fr))]) (w1 := [(y, .inl (cI, 16, .inl u4))]) hP hD [6] [0, 1, 2, 3, 4, 5] rfl rfl (by decide) (by decide) hk1 hFc hP1 hD1
  have hP : va_P (dC, dI) sd_cl [(h0, .inr (1, [.ref k, .ref x, .ref y])), (k, .inl (cI, 32, .inl kf)), (x, .inl (cI, 16, .inl bf)), (q, .inl (cI, 32, .inl K)), (pl, .inl (cI, 2, .inl fl)), (pr, .inl (cI, 2, .inl fr)), (y, .inl (cI, 16, .inl u4))] H := hP
  have hD : va_D A [(h0, .inr (1, [.ref k, .ref x, .ref y])), (k, .inl (cI, 32, .inl kf)), (x, .inl (cI, 16, .inl bf)), (q, .inl (cI, 32, .inl K)), (pl, .inl (cI, 2, .inl fl)), (pr, .inl (cI, 2, .inl fr)), (y, .inl (cI, 16, .inl u4))] := hD
  have hP := hP.sub (ws' := [(h0, .inr (1, [.ref k, .ref x, .ref y])), (k, .inl (cI, 32, .inl kf)), (x, .inl (cI, 16, .inl bf)), (y, .inl (cI, 16, .inl u4))]) [0, 1, 2, 6] rfl
  have hD := hD.sub (ws' := [(h0, .inr (1, [.ref k, .ref x, .ref y])), (k, .inl (cI, 32, .inl kf)), (x, .inl (cI, 16, .inl bf)), (y, .inl (cI, 16, .inl u4))]) [0, 1, 2, 6] (by decide) rfl
  refine W.widen (k := 99) (n := 388) (by first | omega | (dsimp only; omega)) (by first | omega | (dsimp only; omega)) ?_
  exact W.vret hx hb hr (fun t ht hW => ⟨⟨u4, rfl, by rw [hu4, hu3, hu2, hu1]; exact sd_runend hK2 hq, by rw [ht]; exact hP, hD⟩, hS.F ht⟩) hS.2.2 dX1_run_235
end
section
/-! ===== SeedDeskModel: the small methods ===== -/
set_option maxHeartbeats 4000000 in
set_option maxRecDepth 100000 in
/-- SeedDeskModel() -/
theorem mt_minit (l : Launch) (dC : Nat → ClassId) (dI : Nat → Nat → Nat) (cB cI : ClassId) (h0 : Nat) (sz : Nat) : Met l yX1_init (ws_ yX1_init cX1_init 1 none) ({ frames := 1, cells := 3, slots := 64, locals := 12 } : Room) (va_Pc [.ref h0] (sd_pre (dC, dI) cB cI [(h0, .inr (1, [.null, .null, .null]))] sz)) (va_Qv (fun _ : Nat × Nat × Nat => True) (fun u t => va_P (dC, dI) sd_cl [(h0, .inr (1, [.ref u.1, .ref u.2.1, .ref u.2.2])), (u.1, .inl (cI, 32, .inl (fun _ => 0))), (u.2.1, .inl (cI, 16, .inl (fun _ => 0))), (u.2.2, .inl (cI, 16, .inl (fun _ => 0)))] t.heap ∧ va_D (va_A [(h0, .inr (1, [.null, .null, .null]))] sz) [(h0, .inr (1, [.ref u.1, .ref u.2.1, .ref u.2.2])), (u.1, .inl (cI, 32, .inl (fun _ => 0))), (u.2.1, .inl (cI, 16, .inl (fun _ => 0))), (u.2.2, .inl (cI, 16, .inl (fun _ => 0)))]) (va_A [(h0, .inr (1, [.null, .null, .null]))] sz)) 3 64 (va_A [(h0, .inr (1, [.null, .null, .null]))] sz) := by
  refine sd_metW (Qc := fun A => va_Qv (fun _ : Nat × Nat × Nat => True) (fun u t => va_P (dC, dI) sd_cl [(h0, .inr (1, [.ref u.1, .ref u.2.1, .ref u.2.2])), (u.1, .inl (cI, 32, .inl (fun _ => 0))), (u.2.1, .inl (cI, 16, .inl (fun _ => 0))), (u.2.2, .inl (cI, 16, .inl (fun _ => 0)))] t.heap ∧ va_D A [(h0, .inr (1, [.ref u.1, .ref u.2.1, .ref u.2.2])), (u.1, .inl (cI, 32, .inl (fun _ => 0))), (u.2.1, .inl (cI, 16, .inl (fun _ => 0))), (u.2.2, .inl (cI, 16, .inl (fun _ => 0)))]) A) (by decide) (Nat.le_of_ble_eq_true rfl) ?_
  intro p e s m below meth c ls A hx hb hr hml hts hown hlocks hname hP hK hD hV hA hS hl
  have hown : s.vm.findClass RX1 = some m.cls := hown
  have hl : lv_has ls 1 [(0, .ref h0)] := hl
  have hin : meth.name = "<init>" := hname
  refine lv_aload_n hx hb dX1_init_0 rfl (lv_at hl 0 rfl) ?_
  refine W.objInit hx hb hown (hts _ q323) (hts _ q35) (hts _ q36) rfl (by rw [hml]; exact hl.1) rfl dX1_init_1 (Nat.le_of_ble_eq_true rfl) (Nat.le_of_ble_eq_true rfl) ?_
  refine W.eq (g2 := F0 m 4 ls []) rfl ?_
  refine lv_aload_n hx hb dX1_init_4 rfl (lv_at hl 0 rfl) ?_
  refine lv_bipush (v := 32) hx hb dX1_init_5 (by decide) ?_
  refine sd_newI hx hb hts hK hP hD hS hA 32 (by decide) (by decide) (by decide) (Nat.le_of_ble_eq_true rfl) (Nat.le_of_ble_eq_true rfl) dX1_init_7 (fun k H hP hD hS => ?_)
  have hP : va_P (dC, dI) sd_cl [(h0, .inr (1, [.null, .null, .null])), (k, .inl (cI, 32, .inl (fun _ => 0)))] H := hP
  have hD : va_D A [(h0, .inr (1, [.null, .null, .null])), (k, .inl (cI, 32, .inl (fun _ => 0)))] := hD
  refine va_putF (D := (dC, dI)) (ci := 1) (v := .ref k) (ty := .array .int) (C := RX1) (T := TX1) (N := 3) hx hb hts in_X1 tyX1 tyX1_ok nmX1 hown hK hP hD hS 0 rfl rfl 0 (by decide) (hts _ q324) (fun _ h9 => h9) rfl hin rfl (by decide +kernel) rfl rfl (Nat.le_of_ble_eq_true rfl) dX1_init_9 (fun H locs hP hD hS => ?_)
  have hP : va_P (dC, dI) sd_cl [(h0, .inr (1, [.ref k, .null, .null])), (k, .inl (cI, 32, .inl (fun _ => 0)))] H := hP
  have hD : va_D A [(h0, .inr (1, [.ref k, .null, .null])), (k, .inl (cI, 32, .inl (fun _ => 0)))] := hD
  refine lv_aload_n hx hb dX1_init_12 rfl (lv_at hl 0 rfl) ?_
  refine lv_bipush (v := 16) hx hb dX1_init_13 (by decide) ?_
  refine sd_newI hx hb hts hK hP hD hS hA 16 (by decide) (by decide) (by decide) (Nat.le_of_ble_eq_true rfl) (Nat.le_of_ble_eq_true rfl) dX1_init_15 (fun x H hP hD hS => ?_)
  have hP : va_P (dC, dI) sd_cl [(h0, .inr (1, [.ref k, .null, .null])), (k, .inl (cI, 32, .inl (fun _ => 0))), (x, .inl (cI, 16, .inl (fun _ => 0)))] H := hP
  have hD : va_D A [(h0, .inr (1, [.ref k, .null, .null])), (k, .inl (cI, 32, .inl (fun _ => 0))), (x, .inl (cI, 16, .inl (fun _ => 0)))] := hD
  refine va_putF (D := (dC, dI)) (ci := 1) (v := .ref x) (ty := .array .int) (C := RX1) (T := TX1) (N := 3) hx hb hts in_X1 tyX1 tyX1_ok nmX1 hown hK hP hD hS 0 rfl rfl 1 (by decide) (hts _ q325) (fun _ h9 => h9) rfl hin rfl (by decide +kernel) rfl rfl (Nat.le_of_ble_eq_true rfl) dX1_init_17 (fun H locs hP hD hS => ?_)
  have hP : va_P (dC, dI) sd_cl [(h0, .inr (1, [.ref k, .ref x, .null])), (k, .inl (cI, 32, .inl (fun _ => 0))), (x, .inl (cI, 16, .inl (fun _ => 0)))] H := hP
  have hD : va_D A [(h0, .inr (1, [.ref k, .ref x, .null])), (k, .inl (cI, 32, .inl (fun _ => 0))), (x, .inl (cI, 16, .inl (fun _ => 0)))] := hD
  refine lv_aload_n hx hb dX1_init_20 rfl (lv_at hl 0 rfl) ?_
  refine lv_bipush (v := 16) hx hb dX1_init_21 (by decide) ?_
  refine sd_newI hx hb hts hK hP hD hS hA 16 (by decide) (by decide) (by decide) (Nat.le_of_ble_eq_true rfl) (Nat.le_of_ble_eq_true rfl) dX1_init_23 (fun y H hP hD hS => ?_)
  have hP : va_P (dC, dI) sd_cl [(h0, .inr (1, [.ref k, .ref x, .null])), (k, .inl (cI, 32, .inl (fun _ => 0))), (x, .inl (cI, 16, .inl (fun _ => 0))), (y, .inl (cI, 16, .inl (fun _ => 0)))] H := hP
  have hD : va_D A [(h0, .inr (1, [.ref k, .ref x, .null])), (k, .inl (cI, 32, .inl (fun _ => 0))), (x, .inl (cI, 16, .inl (fun _ => 0))), (y, .inl (cI, 16, .inl (fun _ => 0)))] := hD
  refine va_putF (D := (dC, dI)) (ci := 1) (v := .ref y) (ty := .array .int) (C := RX1) (T := TX1) (N := 3) hx hb hts in_X1 tyX1 tyX1_ok nmX1 hown hK hP hD hS 0 rfl rfl 2 (by decide) (hts _ q326) (fun _ h9 => h9) rfl hin rfl (by decide +kernel) rfl rfl (Nat.le_of_ble_eq_true rfl) dX1_init_25 (fun H locs hP hD hS => ?_)
  have hP : va_P (dC, dI) sd_cl [(h0, .inr (1, [.ref k, .ref x, .ref y])), (k, .inl (cI, 32, .inl (fun _ => 0))), (x, .inl (cI, 16, .inl (fun _ => 0))), (y, .inl (cI, 16, .inl (fun _ => 0)))] H := hP
  have hD : va_D A [(h0, .inr (1, [.ref k, .ref x, .ref y])), (k, .inl (cI, 32, .inl (fun _ => 0))), (x, .inl (cI, 16, .inl (fun _ => 0))), (y, .inl (cI, 16, .inl (fun _ => 0)))] := hD
  refine W.widen (k := 3) (n := 64) (by first | omega | (dsimp only; omega)) (by first | omega | (dsimp only; omega)) ?_
  exact W.vret hx hb hr (fun t ht hW => ⟨⟨(k, x, y), rfl, trivial, by rw [ht]; exact hP, hD⟩, hS.F ht⟩) hS.2.2 dX1_init_28
/-- the half of the key that is meant -/
def sd_hf (x : Int32) : Nat := x.toBitVec.toNat % 2
theorem sd_hf_lt (x : Int32) : sd_hf x < 2 := Nat.mod_lt _ (by omega)
set_option maxHeartbeats 4000000 in
set_option maxRecDepth 100000 in
/-- key(half, a, b, c, d) -/
theorem mt_mkey (l : Launch) (dC : Nat → ClassId) (dI : Nat → Nat → Nat) (cB cI : ClassId) (h0 k x y : Nat) (f : Nat → Int32) (hf a b c_ d_ : Int32) (sz : Nat) : Met l yX1_key (ws_ yX1_key cX1_key 7 none) ({ frames := 1, cells := 0, slots := 0, locals := 23 } : Room) (va_Pc [.ref h0, .int hf, .int a, .int b, .int c_, .int d_] (sd_pre (dC, dI) cB cI [(h0, .inr (1, [.ref k, .ref x, .ref y])), (k, .inl (cI, 32, .inl f))] sz)) (va_Qv (fun u : Nat → Int32 => u = sd_put (sd_put (sd_put (sd_put f (sd_hf hf * 16) a) (sd_hf hf * 16 + 4) b) (sd_hf hf * 16 + 8) c_) (sd_hf hf * 16 + 12) d_) (fun u t => va_P (dC, dI) sd_cl [(h0, .inr (1, [.ref k, .ref x, .ref y])), (k, .inl (cI, 32, .inl u))] t.heap ∧ va_D (va_A [(h0, .inr (1, [.ref k, .ref x, .ref y])), (k, .inl (cI, 32, .inl f))] sz) [(h0, .inr (1, [.ref k, .ref x, .ref y])), (k, .inl (cI, 32, .inl u))]) (va_A [(h0, .inr (1, [.ref k, .ref x, .ref y])), (k, .inl (cI, 32, .inl f))] sz)) 0 0 (va_A [(h0, .inr (1, [.ref k, .ref x, .ref y])), (k, .inl (cI, 32, .inl f))] sz) := by
  refine sd_metW (Qc := fun A => va_Qv (fun u : Nat → Int32 => u = sd_put (sd_put (sd_put (sd_put f (sd_hf hf * 16) a) (sd_hf hf * 16 + 4) b) (sd_hf hf * 16 + 8) c_) (sd_hf hf * 16 + 12) d_) (fun u t => va_P (dC, dI) sd_cl [(h0, .inr (1, [.ref k, .ref x, .ref y])), (k, .inl (cI, 32, .inl u))] t.heap ∧ va_D A [(h0, .inr (1, [.ref k, .ref x, .ref y])), (k, .inl (cI, 32, .inl u))]) A) (by decide) (Nat.le_of_ble_eq_true rfl) ?_
  intro p e s m below meth c ls A hx hb hr hml hts hown hlocks hname hP hK hD hV hA hS hl
  have hown : s.vm.findClass RX1 = some m.cls := hown
  have hl : lv_has ls 7 [(0, .ref h0), (1, .int hf), (2, .int a), (3, .int b), (4, .int c_), (5, .int d_)] := hl
  have hh := sd_hf_lt hf
  refine lv_iload_n hx hb dX1_key_0 rfl (lv_at hl 1 rfl) ?_
  refine lv_iconst (v := 1) hx hb dX1_key_1 (by decide) ?_
  refine lv_iand hx hb dX1_key_2 ?_
  refine sd_top (y := (nI (sd_hf hf))) (pk_and hf 1 (by decide)) ?_
  refine lv_bipush (v := 16) hx hb dX1_key_3 (by decide) ?_
  refine lv_imul hx hb dX1_key_5 ?_
  refine sd_top (y := (nI (sd_hf hf * 16))) (pk_mul (sd_hf hf) 16) ?_
  refine lv_istore (lv' := [(6, .int (nI (sd_hf hf * 16))), (0, .ref h0), (1, .int hf), (2, .int a), (3, .int b), (4, .int c_), (5, .int d_)]) hx hb dX1_key_6 hl (by decide) rfl (fun ls hl => ?_)
  refine lv_aload_n hx hb dX1_key_8 rfl (lv_at hl 1 rfl) ?_
  refine va_get (D := (dC, dI)) (ci := 1) (v := .ref k) (C := RX1) (T := TX1) (N := 3) hx hb hts in_X1 hown hK hP 0 rfl rfl 0 (by decide) (hts _ q324) (fun _ h9 => h9) rfl dX1_key_9 ?_
  refine lv_iload hx hb dX1_key_12 (lv_at hl 0 rfl) ?_
  refine lv_iload_n hx hb dX1_key_14 rfl (lv_at hl 3 rfl) ?_
  have hPc := hP.sub (ws' := [(k, .inl (cI, 32, .inl f))]) [1] rfl
  have hDc := hD.sub (ws' := [(k, .inl (cI, 32, .inl f))]) [1] (by decide) rfl
  have hFc := va_free (wc := [(k, .inl (cI, 32, .inl f))]) hD hS hA [1] rfl
  refine va_callv (va_runS (As := [.ref k, .int (nI (sd_hf hf * 16)), .int a]) (rest := []) ⟨hx, hb, hml, hown, hts⟩ (mt_word l dC dI cB cI k (sd_hf hf * 16) 32 (by decide) (by omega) f a s.heap.size) (va_cwS 3 hts (lw_S q338 q339 q17 q340) rfl rfl rfl (by decide +kernel) ⟨Nat.le_of_ble_eq_true rfl, Nat.le_of_ble_eq_true rfl⟩) (sd_preS hK hV hS hPc hDc hFc) rfl rfl hl.1 rfl (lv_room (Nat.le_of_ble_eq_true rfl)) dX1_key_15 ⟨Nat.le_of_ble_eq_true rfl, Nat.le_of_ble_eq_true rfl⟩) hS (fun q _ h => hFc q h) hFc (fun u1 t H locs ht hvm hu1 hB hz1 hk1 hS => ?_)
  obtain ⟨hP1, hD1⟩ := hB
  rw [ht] at hP1
  obtain ⟨hP, hD⟩ := va_join (wr := [(h0, .inr (1, [.ref k, .ref x, .ref y]))]) (w1 := [(k, .inl (cI, 32, .inl u1))]) hP hD [1] [0] rfl rfl (by decide) (by decide) hk1 hFc hP1 hD1
  have hP : va_P (dC, dI) sd_cl [(h0, .inr (1, [.ref k, .ref x, .ref y])), (k, .inl (cI, 32, .inl u1))] H := hP
  have hD : va_D A [(h0, .inr (1, [.ref k, .ref x, .ref y])), (k, .inl (cI, 32, .inl u1))] := hD
  refine lv_aload_n hx hb dX1_key_18 rfl (lv_at hl 1 rfl) ?_
  refine va_get (D := (dC, dI)) (ci := 1) (v := .ref k) (C := RX1) (T := TX1) (N := 3) hx hb hts in_X1 hown hK hP 0 rfl rfl 0 (by decide) (hts _ q324) (fun _ h9 => h9) rfl dX1_key_19 ?_
  refine lv_iload hx hb dX1_key_22 (lv_at hl 0 rfl) ?_
  refine lv_iconst (v := 4) hx hb dX1_key_24 (by decide) ?_
  refine lv_iadd hx hb dX1_key_25 ?_
  refine sd_top (y := (nI (sd_hf hf * 16 + 4))) (nI_add _ 4) ?_
  refine lv_iload_n hx hb dX1_key_26 rfl (lv_at hl 4 rfl) ?_
  have hPc := hP.sub (ws' := [(k, .inl (cI, 32, .inl u1))]) [1] rfl
  have hDc := hD.sub (ws' := [(k, .inl (cI, 32, .inl u1))]) [1] (by decide) rfl
  have hFc := va_free (wc := [(k, .inl (cI, 32, .inl u1))]) hD hS hA [1] rfl
  refine va_callv (va_runS (As := [.ref k, .int (nI (sd_hf hf * 16 + 4)), .int b]) (rest := []) ⟨hx, hb, hml, hown, hts⟩ (mt_word l dC dI cB cI k (sd_hf hf * 16 + 4) 32 (by decide) (by omega) u1 b H.size) (va_cwS 3 hts (lw_S q338 q339 q17 q340) rfl rfl rfl (by decide +kernel) ⟨Nat.le_of_ble_eq_true rfl, Nat.le_of_ble_eq_true rfl⟩) (sd_preS hK hV hS hPc hDc hFc) rfl rfl hl.1 rfl (lv_room (Nat.le_of_ble_eq_true rfl)) dX1_key_27 ⟨Nat.le_of_ble_eq_true rfl, Nat.le_of_ble_eq_true rfl⟩) hS (fun q _ h => hFc q h) hFc (fun u2 t H locs ht hvm hu2 hB hz1 hk1 hS => ?_)
  obtain ⟨hP1, hD1⟩ := hB
  rw [ht] at hP1
  obtain ⟨hP, hD⟩ := va_join (wr := [(h0, .inr (1, [.ref k, .ref x, .ref y]))]) (w1 := [(k, .inl (cI, 32, .inl u2))]) hP hD [1] [0] rfl rfl (by decide) (by decide) hk1 hFc hP1 hD1
  have hP : va_P (dC, dI) sd_cl [(h0, .inr (1, [.ref k, .ref x, .ref y])), (k, .inl (cI, 32, .inl u2))] H := hP
  have hD : va_D A [(h0, .inr (1, [.ref k, .ref x, .ref y])), (k, .inl (cI, 32, .inl u2))] := hD
  refine lv_aload_n hx hb dX1_key_30 rfl (lv_at hl 1 rfl) ?_
  refine va_get (D := (dC, dI)) (ci := 1) (v := .ref k) (C := RX1) (T := TX1) (N := 3) hx hb hts in_X1 hown hK hP 0 rfl rfl 0 (by decide) (hts _ q324) (fun _ h9 => h9) rfl dX1_key_31 ?_
  refine lv_iload hx hb dX1_key_34 (lv_at hl 0 rfl) ?_
  refine lv_bipush (v := 8) hx hb dX1_key_36 (by decide) ?_
  refine lv_iadd hx hb dX1_key_38 ?_
  refine sd_top (y := (nI (sd_hf hf * 16 + 8))) (nI_add _ 8) ?_
  refine lv_iload hx hb dX1_key_39 (lv_at hl 5 rfl) ?_
  have hPc := hP.sub (ws' := [(k, .inl (cI, 32, .inl u2))]) [1] rfl
  have hDc := hD.sub (ws' := [(k, .inl (cI, 32, .inl u2))]) [1] (by decide) rfl
  have hFc := va_free (wc := [(k, .inl (cI, 32, .inl u2))]) hD hS hA [1] rfl
  refine va_callv (va_runS (As := [.ref k, .int (nI (sd_hf hf * 16 + 8)), .int c_]) (rest := []) ⟨hx, hb, hml, hown, hts⟩ (mt_word l dC dI cB cI k (sd_hf hf * 16 + 8) 32 (by decide) (by omega) u2 c_ H.size) (va_cwS 3 hts (lw_S q338 q339 q17 q340) rfl rfl rfl (by decide +kernel) ⟨Nat.le_of_ble_eq_true rfl, Nat.le_of_ble_eq_true rfl⟩) (sd_preS hK hV hS hPc hDc hFc) rfl rfl hl.1 rfl (lv_room (Nat.le_of_ble_eq_true rfl)) dX1_key_41 ⟨Nat.le_of_ble_eq_true rfl, Nat.le_of_ble_eq_true rfl⟩) hS (fun q _ h => hFc q h) hFc (fun u3 t H locs ht hvm hu3 hB hz1 hk1 hS => ?_)
  obtain ⟨hP1, hD1⟩ := hB
  rw [ht] at hP1
  obtain ⟨hP, hD⟩ := va_join (wr := [(h0, .inr (1, [.ref k, .ref x, .ref y]))]) (w1 := [(k, .inl (cI, 32, .inl u3))]) hP hD [1] [0] rfl rfl (by decide) (by decide) hk1 hFc hP1 hD1
  have hP : va_P (dC, dI) sd_cl [(h0, .inr (1, [.ref k, .ref x, .ref y])), (k, .inl (cI, 32, .inl u3))] H := hP
  have hD : va_D A [(h0, .inr (1, [.ref k, .ref x, .ref y])), (k, .inl (cI, 32, .inl u3))] := hD
  refine lv_aload_n hx hb dX1_key_44 rfl (lv_at hl 1 rfl) ?_
  refine va_get (D := (dC, dI)) (ci := 1) (v := .ref k) (C := RX1) (T := TX1) (N := 3) hx hb hts in_X1 hown hK hP 0 rfl rfl 0 (by decide) (hts _ q324) (fun _ h9 => h9) rfl dX1_key_45 ?_
  refine lv_iload hx hb dX1_key_48 (lv_at hl 0 rfl) ?_
  refine lv_bipush (v := 12) hx hb dX1_key_50 (by decide) ?_
  refine lv_iadd hx hb dX1_key_52 ?_
  refine sd_top (y := (nI (sd_hf hf * 16 + 12))) (nI_add _ 12) ?_
  refine lv_iload hx hb dX1_key_53 (lv_at hl 6 rfl) ?_
  have hPc := hP.sub (ws' := [(k, .inl (cI, 32, .inl u3))]) [1] rfl
  have hDc := hD.sub (ws' := [(k, .inl (cI, 32, .inl u3))]) [1] (by decide) rfl
  have hFc := va_free (wc := [(k, .inl (cI, 32, .inl u3))]) hD hS hA [1] rfl
  refine va_callv (va_runS (As := [.ref k, .int (nI (sd_hf hf * 16 + 12)), .int d_]) (rest := []) ⟨hx, hb, hml, hown, hts⟩ (mt_word l dC dI cB cI k (sd_hf hf * 16 + 12) 32 (by decide) (by omega) u3 d_ H.size) (va_cwS 3 hts (lw_S q338 q339 q17 q340) rfl rfl rfl (by decide +kernel) ⟨Nat.le_of_ble_eq_true rfl, Nat.le_of_ble_eq_true rfl⟩) (sd_preS hK hV hS hPc hDc hFc) rfl rfl hl.1 rfl (lv_room (Nat.le_of_ble_eq_true rfl)) dX1_key_55 ⟨Nat.le_of_ble_eq_true rfl, Nat.le_of_ble_eq_true rfl⟩) hS (fun q _ h => hFc q h) hFc (fun u4 t H locs ht hvm hu4 hB hz1 hk1 hS => ?_)
  obtain ⟨hP1, hD1⟩ := hB
  rw [ht] at hP1
  obtain ⟨hP, hD⟩ := va_join (wr := [(h0, .inr (1, [.ref k, .ref x, .ref y]))]) (w1 := [(k, .inl (cI, 32, .inl u4))]) hP hD [1] [0] rfl rfl (by decide) (by decide) hk1 hFc hP1 hD1
  have hP : va_P (dC, dI) sd_cl [(h0, .inr (1, [.ref k, .ref x, .ref y])), (k, .inl (cI, 32, .inl u4))] H := hP
  have hD : va_D A [(h0, .inr (1, [.ref k, .ref x, .ref y])), (k, .inl (cI, 32, .inl u4))] := hD
  exact W.vret hx hb hr (fun t ht hW => ⟨⟨u4, rfl, by rw [hu4, hu3, hu2, hu1], by rw [ht]; exact hP, hD⟩, hS.F ht⟩) hS.2.2 dX1_key_58
set_option maxHeartbeats 4000000 in
set_option maxRecDepth 100000 in
/-- block(a, b, c, d) -/
theorem mt_mblock (l : Launch) (dC : Nat → ClassId) (dI : Nat → Nat → Nat) (cB cI : ClassId) (h0 k x y : Nat) (f : Nat → Int32) (a b c_ d_ : Int32) (sz : Nat) : Met l yX1_block (ws_ yX1_block cX1_block 5 none) ({ frames := 1, cells := 0, slots := 0, locals := 23 } : Room) (va_Pc [.ref h0, .int a, .int b, .int c_, .int d_] (sd_pre (dC, dI) cB cI [(h0, .inr (1, [.ref k, .ref x, .ref y])), (x, .inl (cI, 16, .inl f))] sz)) (va_Qv (fun u : Nat → Int32 => u = sd_put (sd_put (sd_put (sd_put f 0 a) 4 b) 8 c_) 12 d_) (fun u t => va_P (dC, dI) sd_cl [(h0, .inr (1, [.ref k, .ref x, .ref y])), (x, .inl (cI, 16, .inl u))] t.heap ∧ va_D (va_A [(h0, .inr (1, [.ref k, .ref x, .ref y])), (x, .inl (cI, 16, .inl f))] sz) [(h0, .inr (1, [.ref k, .ref x, .ref y])), (x, .inl (cI, 16, .inl u))]) (va_A [(h0, .inr (1, [.ref k, .ref x, .ref y])), (x, .inl (cI, 16, .inl f))] sz)) 0 0 (va_A [(h0, .inr (1, [.ref k, .ref x, .ref y])), (x, .inl (cI, 16, .inl f))] sz) := by
  refine sd_metW (Qc := fun A => va_Qv (fun u : Nat → Int32 => u = sd_put (sd_put (sd_put (sd_put f 0 a) 4 b) 8 c_) 12 d_) (fun u t => va_P (dC, dI) sd_cl [(h0, .inr (1, [.ref k, .ref x, .ref y])), (x, .inl (cI, 16, .inl u))] t.heap ∧ va_D A [(h0, .inr (1, [.ref k, .ref x, .ref y])), (x, .inl (cI, 16, .inl u))]) A) (by decide) (Nat.le_of_ble_eq_true rfl) ?_
  intro p e s m below meth c ls A hx hb hr hml hts hown hlocks hname hP hK hD hV hA hS hl
  have hown : s.vm.findClass RX1 = some m.cls := hown
  have hl : lv_has ls 5 [(0, .ref h0), (1, .int a), (2, .int b), (3, .int c_), (4, .int d_)] := hl
  refine lv_aload_n hx hb dX1_block_0 rfl (lv_at hl 0 rfl) ?_
  refine va_get (D := (dC, dI)) (ci := 1) (v := .ref x) (C := RX1) (T := TX1) (N := 3) hx hb hts in_X1 hown hK hP 0 rfl rfl 1 (by decide) (hts _ q325) (fun _ h9 => h9) rfl dX1_block_1 ?_
  refine lv_iconst (v := 0) hx hb dX1_block_4 (by decide) ?_
  refine lv_iload_n hx hb dX1_block_5 rfl (lv_at hl 1 rfl) ?_
  have hPc := hP.sub (ws' := [(x, .inl (cI, 16, .inl f))]) [1] rfl
  have hDc := hD.sub (ws' := [(x, .inl (cI, 16, .inl f))]) [1] (by decide) rfl
  have hFc := va_free (wc := [(x, .inl (cI, 16, .inl f))]) hD hS hA [1] rfl
  refine va_callv (va_runS (As := [.ref x, .int 0, .int a]) (rest := []) ⟨hx, hb, hml, hown, hts⟩ (mt_word l dC dI cB cI x 0 16 (by decide) (by decide) f a s.heap.size) (va_cwS 3 hts (lw_S q338 q339 q17 q340) rfl rfl rfl (by decide +kernel) ⟨Nat.le_of_ble_eq_true rfl, Nat.le_of_ble_eq_true rfl⟩) (sd_preS hK hV hS hPc hDc hFc) rfl rfl hl.1 rfl (lv_room (Nat.le_of_ble_eq_true rfl)) dX1_block_6 ⟨Nat.le_of_ble_eq_true rfl, Nat.le_of_ble_eq_true rfl⟩) hS (fun q _ h => hFc q h) hFc (fun u1 t H locs ht hvm hu1 hB hz1 hk1 hS => ?_)
  obtain ⟨hP1, hD1⟩ := hB
  rw [ht] at hP1
  obtain ⟨hP, hD⟩ := va_join (wr := [(h0, .inr (1, [.ref k, .ref x, .ref y]))]) (w1 := [(x, .inl (cI, 16, .inl u1))]) hP hD [1] [0] rfl rfl (by decide) (by decide) hk1 hFc hP1 hD1
  have hP : va_P (dC, dI) sd_cl [(h0, .inr (1, [.ref k, .ref x, .ref y])), (x, .inl (cI, 16, .inl u1))] H := hP
  have hD : va_D A [(h0, .inr (1, [.ref k, .ref x, .ref y])), (x, .inl (cI, 16, .inl u1))] := hD
  refine lv_aload_n hx hb dX1_block_9 rfl (lv_at hl 0 rfl) ?_
  refine va_get (D := (dC, dI)) (ci := 1) (v := .ref x) (C := RX1) (T := TX1) (N := 3) hx hb hts in_X1 hown hK hP 0 rfl rfl 1 (by decide) (hts _ q325) (fun _ h9 => h9) rfl dX1_block_10 ?_
  refine lv_iconst (v := 4) hx hb dX1_block_13 (by decide) ?_
  refine lv_iload_n hx hb dX1_block_14 rfl (lv_at hl 2 rfl) ?_
  have hPc := hP.sub (ws' := [(x, .inl (cI, 16, .inl u1))]) [1] rfl
  have hDc := hD.sub (ws' := [(x, .inl (cI, 16, .inl u1))]) [1] (by decide) rfl
  have hFc := va_free (wc := [(x, .inl (cI, 16, .inl u1))]) hD hS hA [1] rfl
  refine va_callv (va_runS (As := [.ref x, .int 4, .int b]) (rest := []) ⟨hx, hb, hml, hown, hts⟩ (mt_word l dC dI cB cI x 4 16 (by decide) (by decide) u1 b H.size) (va_cwS 3 hts (lw_S q338 q339 q17 q340) rfl rfl rfl (by decide +kernel) ⟨Nat.le_of_ble_eq_true rfl, Nat.le_of_ble_eq_true rfl⟩) (sd_preS hK hV hS hPc hDc hFc) rfl rfl hl.1 rfl (lv_room (Nat.le_of_ble_eq_true rfl)) dX1_block_15 ⟨Nat.le_of_ble_eq_true rfl, Nat.le_of_ble_eq_true rfl⟩) hS (fun q _ h => hFc q h) hFc (fun u2 t H locs ht hvm hu2 hB hz1 hk1 hS => ?_)
  obtain ⟨hP1, hD1⟩ := hB
  rw [ht] at hP1
  obtain ⟨hP, hD⟩ := va_join (wr := [(h0, .inr (1, [.ref k, .ref x, .ref y]))]) (w1 := [(x, .inl (cI, 16, .inl u2))]) hP hD [1] [0] rfl rfl (by decide) (by decide) hk1 hFc hP1 hD1
  have hP : va_P (dC, dI) sd_cl [(h0, .inr (1, [.ref k, .ref x, .ref y])), (x, .inl (cI, 16, .inl u2))] H := hP
  have hD : va_D A [(h0, .inr (1, [.ref k, .ref x, .ref y])), (x, .inl (cI, 16, .inl u2))] := hD
  refine lv_aload_n hx hb dX1_block_18 rfl (lv_at hl 0 rfl) ?_
  refine va_get (D := (dC, dI)) (ci := 1) (v := .ref x) (C := RX1) (T := TX1) (N := 3) hx hb hts in_X1 hown hK hP 0 rfl rfl 1 (by decide) (hts _ q325) (fun _ h9 => h9) rfl dX1_block_19 ?_
  refine lv_bipush (v := 8) hx hb dX1_block_22 (by decide) ?_
  refine lv_iload_n hx hb dX1_block_24 rfl (lv_at hl 3 rfl) ?_
  have hPc := hP.sub (ws' := [(x, .inl (cI, 16, .inl u2))]) [1] rfl
  have hDc := hD.sub (ws' := [(x, .inl (cI, 16, .inl u2))]) [1] (by decide) rfl
  have hFc := va_free (wc := [(x, .inl (cI, 16, .inl u2))]) hD hS hA [1] rfl
  refine va_callv (va_runS (As := [.ref x, .int 8, .int c_]) (rest := []) ⟨hx, hb, hml, hown, hts⟩ (mt_word l dC dI cB cI x 8 16 (by decide) (by decide) u2 c_ H.size) (va_cwS 3 hts (lw_S q338 q339 q17 q340) rfl rfl rfl (by decide +kernel) ⟨Nat.le_of_ble_eq_true rfl, Nat.le_of_ble_eq_true rfl⟩) (sd_preS hK hV hS hPc hDc hFc) rfl rfl hl.1 rfl (lv_room (Nat.le_of_ble_eq_true rfl)) dX1_block_25 ⟨Nat.le_of_ble_eq_true rfl, Nat.le_of_ble_eq_true rfl⟩) hS (fun q _ h => hFc q h) hFc (fun u3 t H locs ht hvm hu3 hB hz1 hk1 hS => ?_)
  obtain ⟨hP1, hD1⟩ := hB
  rw [ht] at hP1
  obtain ⟨hP, hD⟩ := va_join (wr := [(h0, .inr (1, [.ref k, .ref x, .ref y]))]) (w1 := [(x, .inl (cI, 16, .inl u3))]) hP hD [1] [0] rfl rfl (by decide) (by decide) hk1 hFc hP1 hD1
  have hP : va_P (dC, dI) sd_cl [(h0, .inr (1, [.ref k, .ref x, .ref y])), (x, .inl (cI, 16, .inl u3))] H := hP
  have hD : va_D A [(h0, .inr (1, [.ref k, .ref x, .ref y])), (x, .inl (cI, 16, .inl u3))] := hD
  refine lv_aload_n hx hb dX1_block_28 rfl (lv_at hl 0 rfl) ?_
  refine va_get (D := (dC, dI)) (ci := 1) (v := .ref x) (C := RX1) (T := TX1) (N := 3) hx hb hts in_X1 hown hK hP 0 rfl rfl 1 (by decide) (hts _ q325) (fun _ h9 => h9) rfl dX1_block_29 ?_
  refine lv_bipush (v := 12) hx hb dX1_block_32 (by decide) ?_
  refine lv_iload hx hb dX1_block_34 (lv_at hl 4 rfl) ?_
  have hPc := hP.sub (ws' := [(x, .inl (cI, 16, .inl u3))]) [1] rfl
  have hDc := hD.sub (ws' := [(x, .inl (cI, 16, .inl u3))]) [1] (by decide) rfl
  have hFc := va_free (wc := [(x, .inl (cI, 16, .inl u3))]) hD hS hA [1] rfl
  refine va_callv (va_runS (As := [.ref x, .int 12, .int d_]) (rest := []) ⟨hx, hb, hml, hown, hts⟩ (mt_word l dC dI cB cI x 12 16 (by decide) (by decide) u3 d_ H.size) (va_cwS 3 hts (lw_S q338 q339 q17 q340) rfl rfl rfl (by decide +kernel) ⟨Nat.le_of_ble_eq_true rfl, Nat.le_of_ble_eq_true rfl⟩) (sd_preS hK hV hS hPc hDc hFc) rfl rfl hl.1 rfl (lv_room (Nat.le_of_ble_eq_true rfl)) dX1_block_36 ⟨Nat.le_of_ble_eq_true rfl, Nat.le_of_ble_eq_true rfl⟩) hS (fun q _ h => hFc q h) hFc (fun u4 t H locs ht hvm hu4 hB hz1 hk1 hS => ?_)
  obtain ⟨hP1, hD1⟩ := hB
  rw [ht] at hP1
  obtain ⟨hP, hD⟩ := va_join (wr := [(h0, .inr (1, [.ref k, .ref x, .ref y]))]) (w1 := [(x, .inl (cI, 16, .inl u4))]) hP hD [1] [0] rfl rfl (by decide) (by decide) hk1 hFc hP1 hD1
  have hP : va_P (dC, dI) sd_cl [(h0, .inr (1, [.ref k, .ref x, .ref y])), (x, .inl (cI, 16, .inl u4))] H := hP
  have hD : va_D A [(h0, .inr (1, [.ref k, .ref x, .ref y])), (x, .inl (cI, 16, .inl u4))] := hD
  exact W.vret hx hb hr (fun t ht hW => ⟨⟨u4, rfl, by rw [hu4, hu3, hu2, hu1], by rw [ht]; exact hP, hD⟩, hS.F ht⟩) hS.2.2 dX1_block_39
section SDmA
variable {p : Program} {l : Launch} {e : Env} {R : Room} {s : State} {m : MethodId} {args : Array Value} {below : List Frame} {meth : Method} {c : Code} {H : Heap} {locs : List Loc} {cells slots : Nat} {Q : State → Prop} {dC : Nat → ClassId} {dI : Nat → Nat → Nat} {cB cI : ClassId} {A : Nat → Prop}
set_option maxHeartbeats 4000000 in
set_option maxRecDepth 100000 in
/-- again's loop -/
theorem lp_magain {f g : Nat → Int32} {h0 k x y : Nat} (hx : p.tables.exec = Jvm.exec) (hb : c.code = cX1_again) (hml : c.maxLocals = 2) (hown : s.vm.findClass RX1 = some m.cls) (hts : ∀ w ∈ lw_all, w.before args s = true) (hK : va_K (dC, dI) sd_cl (sd_ty cB cI) s) (hV : sd_V A s)
    (kk : ∀ (u : Nat → Int32) (H : Heap) (locs : List Loc) (ls : Array Slot), (∀ j, u j = if 0 ≤ j ∧ j < 0 + 16 then g (j - 0) else f j) → va_P (dC, dI) sd_cl [(h0, .inr (1, [.ref k, .ref x, .ref y])), (x, .inl (cI, 16, .inl u)), (y, .inl (cI, 16, .inl g))] H → va_D A [(h0, .inr (1, [.ref k, .ref x, .ref y])), (x, .inl (cI, 16, .inl u)), (y, .inl (cI, 16, .inl g))] → va_S A s.heap H locs → lv_has ls 2 [(0, .ref h0), (1, .int (nI 16))] → W p l e R s m args below meth c H locs cells slots Q (F0 m 26 ls [])) :
    ∀ (n i : Nat) (u : Nat → Int32) (H : Heap) (locs : List Loc) (ls : Array Slot), i + n = 16 → (∀ j, u j = if 0 ≤ j ∧ j < 0 + i then g (j - 0) else f j) → va_P (dC, dI) sd_cl [(h0, .inr (1, [.ref k, .ref x, .ref y])), (x, .inl (cI, 16, .inl u)), (y, .inl (cI, 16, .inl g))] H → va_D A [(h0, .inr (1, [.ref k, .ref x, .ref y])), (x, .inl (cI, 16, .inl u)), (y, .inl (cI, 16, .inl g))] → va_S A s.heap H locs → lv_has ls 2 [(0, .ref h0), (1, .int (nI i))] → W p l e R s m args below meth c H locs cells slots Q (F0 m 2 ls []) := by
  intro n
  induction n with
  | zero =>
    intro i u H locs ls hi hu hP hD hS hl
    obtain rfl : i = 16 := by omega
    refine lv_iload_n hx hb dX1_again_2 rfl (lv_at hl 1 rfl) ?_
    refine lv_bipush (v := 16) hx hb dX1_again_3 (by decide) ?_
    exact lv_icmp_ge (tgt := 26) hx hb dX1_again_5 (by decide) (fun _ => kk u H locs ls hu hP hD hS hl) (fun h => absurd (by decide) h)
  | succ n ih =>
    intro i u H locs ls hi hu hP hD hS hl
    refine lv_iload_n hx hb dX1_again_2 rfl (lv_at hl 1 rfl) ?_
    refine lv_bipush (v := 16) hx hb dX1_again_3 (by decide) ?_
    refine lv_icmp_ge (tgt := 26) hx hb dX1_again_5 (by decide) (fun h => absurd h (sd_g16 i (by omega))) (fun _ => ?_)
    refine lv_aload_n hx hb dX1_again_8 rfl (lv_at hl 0 rfl) ?_
    refine va_get (D := (dC, dI)) (ci := 1) (v := .ref x) (C := RX1) (T := TX1) (N := 3) hx hb hts in_X1 hown hK hP 0 rfl rfl 1 (by decide) (hts _ q325) (fun _ h9 => h9) rfl dX1_again_9 ?_
    refine lv_iload_n hx hb dX1_again_12 rfl (lv_at hl 1 rfl) ?_
    refine lv_aload_n hx hb dX1_again_13 rfl (lv_at hl 0 rfl) ?_
    refine va_get (D := (dC, dI)) (ci := 1) (v := .ref y) (C := RX1) (T := TX1) (N := 3) hx hb hts in_X1 hown hK hP 0 rfl rfl 2 (by decide) (hts _ q326) (fun _ h9 => h9) rfl dX1_again_14 ?_
    refine lv_iload_n hx hb dX1_again_17 rfl (lv_at hl 1 rfl) ?_
    refine sd_iald hx hb hK hP 2 1 rfl rfl (k := i) (rfl) (by omega) (by decide) dX1_again_18 ?_
    refine sd_iast hx hb hK hP hD hS 1 1 rfl rfl (k := i) (rfl) (by omega) (by decide) dX1_again_19 (fun H locs hP hD hS => ?_)
    have hP : va_P (dC, dI) sd_cl [(h0, .inr (1, [.ref k, .ref x, .ref y])), (x, .inl (cI, 16, .inl (upd u i (g i)))), (y, .inl (cI, 16, .inl g))] H := hP
    have hD : va_D A [(h0, .inr (1, [.ref k, .ref x, .ref y])), (x, .inl (cI, 16, .inl (upd u i (g i)))), (y, .inl (cI, 16, .inl g))] := hD
    refine lv_iinc (v := (nI (i + 1))) (lv' := [(1, .int (nI (i + 1))), (0, .ref h0)]) hx hb dX1_again_20 hl (k := 1) rfl (nI_1 i) (by decide) rfl (fun ls hl => ?_)
    refine lv_goto (tgt := 2) hx hb dX1_again_23 (by decide) ?_
    exact ih (i + 1) _ H locs ls (by omega) (sd_stp (b := g) hu (by omega)) hP hD hS (lv_sub hl [1, 0] rfl)
end SDmA
set_option maxHeartbeats 4000000 in
set_option maxRecDepth 100000 in
/-- again() -/
theorem mt_magain (l : Launch) (dC : Nat → ClassId) (dI : Nat → Nat → Nat) (cB cI : ClassId) (h0 k x y : Nat) (f g : Nat → Int32) (sz : Nat) : Met l yX1_again (ws_ yX1_again cX1_again 2 none) ({ frames := 0, cells := 0, slots := 0, locals := 0 } : Room) (va_Pc [.ref h0] (sd_pre (dC, dI) cB cI [(h0, .inr (1, [.ref k, .ref x, .ref y])), (x, .inl (cI, 16, .inl f)), (y, .inl (cI, 16, .inl g))] sz)) (va_Qv (fun u : Nat → Int32 => ∀ j, j < 16 → u j = g j) (fun u t => va_P (dC, dI) sd_cl [(h0, .inr (1, [.ref k, .ref x, .ref y])), (x, .inl (cI, 16, .inl u)), (y, .inl (cI, 16, .inl g))] t.heap ∧ va_D (va_A [(h0, .inr (1, [.ref k, .ref x, .ref y])), (x, .inl (cI, 16, .inl f)), (y, .inl (cI, 16, .inl g))] sz) [(h0, .inr (1, [.ref k, .ref x, .ref y])), (x, .inl (cI, 16, .inl u)), (y, .inl (cI, 16, .inl g))]) (va_A [(h0, .inr (1, [.ref k, .ref x, .ref y])), (x, .inl (cI, 16, .inl f)), (y, .inl (cI, 16, .inl g))] sz)) 0 0 (va_A [(h0, .inr (1, [.ref k, .ref x, .ref y])), (x, .inl (cI, 16, .inl f)), (y, .inl (cI, 16, .inl g))] sz) := by
  refine sd_metW (Qc := fun A => va_Qv (fun u : Nat → Int32 => ∀ j, j < 16 → u j = g j) (fun u t => va_P (dC, dI) sd_cl [(h0, .inr (1, [.ref k, .ref x, .ref y])), (x, .inl (cI, 16, .inl u)), (y, .inl (cI, 16, .inl g))] t.heap ∧ va_D A [(h0, .inr (1, [.ref k, .ref x, .ref y])), (x, .inl (cI, 16, .inl u)), (y, .inl (cI, 16, .inl g))]) A) (by decide) (Nat.le_of_ble_eq_true rfl) ?_
  intro p e s m below meth c ls A hx hb hr hml hts hown hlocks hname hP hK hD hV hA hS hl
  have hown : s.vm.findClass RX1 = some m.cls := hown
  have hl : lv_has ls 2 [(0, .ref h0)] := hl
  refine lv_iconst (v := 0) hx hb dX1_again_0 (by decide) ?_
  refine lv_istore_n (lv' := [(1, .int 0), (0, .ref h0)]) hx hb dX1_again_1 rfl hl (by decide) rfl (fun ls hl => ?_)
  refine lp_magain hx hb hml hown hts hK hV (fun u H locs ls hu hP hD hS hl => ?_) 16 0 f _ _ ls rfl (sd_stp0 (b := g)) hP hD hS (lv_sub hl [1, 0] rfl)
  exact W.vret hx hb hr (fun t ht hW => ⟨⟨u, rfl, fun j hj => by rw [hu j, if_pos (by omega)]; rfl, by rw [ht]; exact hP, hD⟩, hS.F ht⟩) hS.2.2 dX1_again_26
set_option maxHeartbeats 4000000 in
set_option maxRecDepth 100000 in
/-- out(i) -/
theorem mt_mout (l : Launch) (dC : Nat → ClassId) (dI : Nat → Nat → Nat) (cB cI : ClassId) (h0 k x y : Nat) (g : Nat → Int32) (i : Int32) : Met l yX1_out (ws_ yX1_out cX1_out 2 (some .int)) ({ frames := 0, cells := 0, slots := 0, locals := 0 } : Room) (va_Pc [.ref h0, .int i] (sd_pur (dC, dI) cB cI [(h0, .inr (1, [.ref k, .ref x, .ref y])), (y, .inl (cI, 16, .inl g))])) (vp_Si (fun r => r = g (i.toBitVec.toNat % 16))) 0 0 (fun _ => False) := by
  refine sd_met (by decide) (Nat.le_of_ble_eq_true rfl) ?_
  intro p e s m below meth c ls hx hb hr hml hts hown hlocks hname hB hl
  obtain ⟨hP, hK, hV⟩ := hB
  have hS : va_S (fun _ => False) s.heap s.heap [] := va_S.rf
  have hown : s.vm.findClass RX1 = some m.cls := hown
  have hl : lv_has ls 2 [(0, .ref h0), (1, .int i)] := hl
  refine lv_aload_n hx hb dX1_out_0 rfl (lv_at hl 0 rfl) ?_
  refine va_get (D := (dC, dI)) (ci := 1) (v := .ref y) (C := RX1) (T := TX1) (N := 3) hx hb hts in_X1 hown hK hP 0 rfl rfl 2 (by decide) (hts _ q326) (fun _ h9 => h9) rfl dX1_out_1 ?_
  refine lv_iload_n hx hb dX1_out_4 rfl (lv_at hl 1 rfl) ?_
  refine lv_bipush (v := 15) hx hb dX1_out_5 (by decide) ?_
  refine lv_iand hx hb dX1_out_7 ?_
  refine sd_top (y := (nI (i.toBitVec.toNat % 16))) (pk_and i 4 (by decide)) ?_
  refine sd_iald hx hb hK hP 1 1 rfl rfl (k := i.toBitVec.toNat % 16) (rfl) (Nat.mod_lt _ (by decide)) (by decide) dX1_out_8 ?_
  exact W.iret (v := (g (i.toBitVec.toNat % 16))) hx hb hr (fun t ht hW => ⟨_, rfl, rfl, ht⟩) (fun q h => absurd h List.not_mem_nil) dX1_out_9
set_option maxHeartbeats 4000000 in
set_option maxRecDepth 100000 in
/-- lock(kind) -/
theorem mt_mlock (l : Launch) (dC : Nat → ClassId) (dI : Nat → Nat → Nat) (cB cI : ClassId) (h0 k x y : Nat) (i : Int32) (kf bf of : Nat → Int32) (sz : Nat) : Met l yX1_lock (ws_ yX1_lock cX1_lock 2 none) ({ frames := 3, cells := 99, slots := 388, locals := 82 } : Room) (va_Pc [.ref h0, .int i] (sd_pre (dC, dI) cB cI [(h0, .inr (1, [.ref k, .ref x, .ref y])), (k, .inl (cI, 32, .inl kf)), (x, .inl (cI, 16, .inl bf)), (y, .inl (cI, 16, .inl of))] sz)) (va_Qv (fun u : Nat → Int32 => ∀ j, j < 16 → u j = sd_ans 1 kf bf j) (fun u t => va_P (dC, dI) sd_cl [(h0, .inr (1, [.ref k, .ref x, .ref y])), (k, .inl (cI, 32, .inl kf)), (x, .inl (cI, 16, .inl bf)), (y, .inl (cI, 16, .inl u))] t.heap ∧ va_D (va_A [(h0, .inr (1, [.ref k, .ref x, .ref y])), (k, .inl (cI, 32, .inl kf)), (x, .inl (cI, 16, .inl bf)), (y, .inl (cI, 16, .inl of))] sz) [(h0, .inr (1, [.ref k, .ref x, .ref y])), (k, .inl (cI, 32, .inl kf)), (x, .inl (cI, 16, .inl bf)), (y, .inl (cI, 16, .inl u))]) (va_A [(h0, .inr (1, [.ref k, .ref x, .ref y])), (k, .inl (cI, 32, .inl kf)), (x, .inl (cI, 16, .inl bf)), (y, .inl (cI, 16, .inl of))] sz)) 99 388 (va_A [(h0, .inr (1, [.ref k, .ref x, .ref y])), (k, .inl (cI, 32, .inl kf)), (x, .inl (cI, 16, .inl bf)), (y, .inl (cI, 16, .inl of))] sz) := by
  refine sd_metW (Qc := fun A => va_Qv (fun u : Nat → Int32 => ∀ j, j < 16 → u j = sd_ans 1 kf bf j) (fun u t => va_P (dC, dI) sd_cl [(h0, .inr (1, [.ref k, .ref x, .ref y])), (k, .inl (cI, 32, .inl kf)), (x, .inl (cI, 16, .inl bf)), (y, .inl (cI, 16, .inl u))] t.heap ∧ va_D A [(h0, .inr (1, [.ref k, .ref x, .ref y])), (k, .inl (cI, 32, .inl kf)), (x, .inl (cI, 16, .inl bf)), (y, .inl (cI, 16, .inl u))]) A) (by decide) (Nat.le_of_ble_eq_true rfl) ?_
  intro p e s m below meth c ls A hx hb hr hml hts hown hlocks hname hP hK hD hV hA hS hl
  have hown : s.vm.findClass RX1 = some m.cls := hown
  have hl : lv_has ls 2 [(0, .ref h0), (1, .int i)] := hl
  refine lv_aload_n hx hb dX1_lock_0 rfl (lv_at hl 0 rfl) ?_
  refine lv_iconst (v := 1) hx hb dX1_lock_1 (by decide) ?_
  have hPc := hP.sub (ws' := [(h0, .inr (1, [.ref k, .ref x, .ref y])), (k, .inl (cI, 32, .inl kf)), (x, .inl (cI, 16, .inl bf)), (y, .inl (cI, 16, .inl of))]) [0, 1, 2, 3] rfl
  have hDc := hD.sub (ws' := [(h0, .inr (1, [.ref k, .ref x, .ref y])), (k, .inl (cI, 32, .inl kf)), (x, .inl (cI, 16, .inl bf)), (y, .inl (cI, 16, .inl of))]) [0, 1, 2, 3] (by decide) rfl
  have hFc := va_free (wc := [(h0, .inr (1, [.ref k, .ref x, .ref y])), (k, .inl (cI, 32, .inl kf)), (x, .inl (cI, 16, .inl bf)), (y, .inl (cI, 16, .inl of))]) hD hS hA [0, 1, 2, 3] rfl
  refine va_callv (va_runV (As := [.int 1]) (rest := []) ⟨hx, hb, hml, hown, hts⟩ (mt_run l dC dI cB cI h0 k x y 1 kf bf of s.heap.size) (cwV 1 hts (lw_V q349 q351 qs13 q17 q352) rfl rfl rfl (by decide +kernel) ⟨Nat.le_of_ble_eq_true rfl, Nat.le_of_ble_eq_true rfl⟩) (sd_preV (va_recv hK hP (ci := 1) (q0 := 0) rfl rfl) hK hV hS hPc hDc hFc) rfl rfl hl.1 rfl (lv_room (Nat.le_of_ble_eq_true rfl)) dX1_lock_2 ⟨Nat.le_of_ble_eq_true rfl, Nat.le_of_ble_eq_true rfl⟩) hS (fun q _ h => hFc q h) hFc (fun u t H locs ht hvm hw hB hz1 hk1 hS => ?_)
  obtain ⟨hP1, hD1⟩ := hB
  rw [ht] at hP1
  obtain ⟨hP, hD⟩ := va_join (wr := []) (w1 := [(h0, .inr (1, [.ref k, .ref x, .ref y])), (k, .inl (cI, 32, .inl kf)), (x, .inl (cI, 16, .inl bf)), (y, .inl (cI, 16, .inl u))]) hP hD [0, 1, 2, 3] [] rfl rfl (by decide) (by decide) hk1 hFc hP1 hD1
  have hP : va_P (dC, dI) sd_cl [(h0, .inr (1, [.ref k, .ref x, .ref y])), (k, .inl (cI, 32, .inl kf)), (x, .inl (cI, 16, .inl bf)), (y, .inl (cI, 16, .inl u))] H := hP
  have hD : va_D A [(h0, .inr (1, [.ref k, .ref x, .ref y])), (k, .inl (cI, 32, .inl kf)), (x, .inl (cI, 16, .inl bf)), (y, .inl (cI, 16, .inl u))] := hD
  refine W.widen (k := 99) (n := 388) (by first | omega | (dsimp only; omega)) (by first | omega | (dsimp only; omega)) ?_
  exact W.vret hx hb hr (fun t ht hW => ⟨⟨u, rfl, hw, by rw [ht]; exact hP, hD⟩, hS.F ht⟩) hS.2.2 dX1_lock_5
set_option maxHeartbeats 4000000 in
set_option maxRecDepth 100000 in
/-- open(kind) -/
theorem mt_mopen (l : Launch) (dC : Nat → ClassId) (dI : Nat → Nat → Nat) (cB cI : ClassId) (h0 k x y : Nat) (i : Int32) (kf bf of : Nat → Int32) (sz : Nat) : Met l yX1_open (ws_ yX1_open cX1_open 2 none) ({ frames := 3, cells := 99, slots := 388, locals := 82 } : Room) (va_Pc [.ref h0, .int i] (sd_pre (dC, dI) cB cI [(h0, .inr (1, [.ref k, .ref x, .ref y])), (k, .inl (cI, 32, .inl kf)), (x, .inl (cI, 16, .inl bf)), (y, .inl (cI, 16, .inl of))] sz)) (va_Qv (fun u : Nat → Int32 => ∀ j, j < 16 → u j = sd_ans 0 kf bf j) (fun u t => va_P (dC, dI) sd_cl [(h0, .inr (1, [.ref k, .ref x, .ref y])), (k, .inl (cI, 32, .inl kf)), (x, .inl (cI, 16, .inl bf)), (y, .inl (cI, 16, .inl u))] t.heap ∧ va_D (va_A [(h0, .inr (1, [.ref k, .ref x, .ref y])), (k, .inl (cI, 32, .inl kf)), (x, .inl (cI, 16, .inl bf)), (y, .inl (cI, 16, .inl of))] sz) [(h0, .inr (1, [.ref k, .ref x, .ref y])), (k, .inl (cI, 32, .inl kf)), (x, .inl (cI, 16, .inl bf)), (y, .inl (cI, 16, .inl u))]) (va_A [(h0, .inr (1, [.ref k, .ref x, .ref y])), (k, .inl (cI, 32, .inl kf)), (x, .inl (cI, 16, .inl bf)), (y, .inl (cI, 16, .inl of))] sz)) 99 388 (va_A [(h0, .inr (1, [.ref k, .ref x, .ref y])), (k, .inl (cI, 32, .inl kf)), (x, .inl (cI, 16, .inl bf)), (y, .inl (cI, 16, .inl of))] sz) := by
  refine sd_metW (Qc := fun A => va_Qv (fun u : Nat → Int32 => ∀ j, j < 16 → u j = sd_ans 0 kf bf j) (fun u t => va_P (dC, dI) sd_cl [(h0, .inr (1, [.ref k, .ref x, .ref y])), (k, .inl (cI, 32, .inl kf)), (x, .inl (cI, 16, .inl bf)), (y, .inl (cI, 16, .inl u))] t.heap ∧ va_D A [(h0, .inr (1, [.ref k, .ref x, .ref y])), (k, .inl (cI, 32, .inl kf)), (x, .inl (cI, 16, .inl bf)), (y, .inl (cI, 16, .inl u))]) A) (by decide) (Nat.le_of_ble_eq_true rfl) ?_
  intro p e s m below meth c ls A hx hb hr hml hts hown hlocks hname hP hK hD hV hA hS hl
  have hown : s.vm.findClass RX1 = some m.cls := hown
  have hl : lv_has ls 2 [(0, .ref h0), (1, .int i)] := hl
  refine lv_aload_n hx hb dX1_open_0 rfl (lv_at hl 0 rfl) ?_
  refine lv_iconst (v := 0) hx hb dX1_open_1 (by decide) ?_
  have hPc := hP.sub (ws' := [(h0, .inr (1, [.ref k, .ref x, .ref y])), (k, .inl (cI, 32, .inl kf)), (x, .inl (cI, 16, .inl bf)), (y, .inl (cI, 16, .inl of))]) [0, 1, 2, 3] rfl
  have hDc := hD.sub (ws' := [(h0, .inr (1, [.ref k, .ref x, .ref y])), (k, .inl (cI, 32, .inl kf)), (x, .inl (cI, 16, .inl bf)), (y, .inl (cI, 16, .inl of))]) [0, 1, 2, 3] (by decide) rfl
  have hFc := va_free (wc := [(h0, .inr (1, [.ref k, .ref x, .ref y])), (k, .inl (cI, 32, .inl kf)), (x, .inl (cI, 16, .inl bf)), (y, .inl (cI, 16, .inl of))]) hD hS hA [0, 1, 2, 3] rfl
  refine va_callv (va_runV (As := [.int 0]) (rest := []) ⟨hx, hb, hml, hown, hts⟩ (mt_run l dC dI cB cI h0 k x y 0 kf bf of s.heap.size) (cwV 1 hts (lw_V q349 q351 qs13 q17 q352) rfl rfl rfl (by decide +kernel) ⟨Nat.le_of_ble_eq_true rfl, Nat.le_of_ble_eq_true rfl⟩) (sd_preV (va_recv hK hP (ci := 1) (q0 := 0) rfl rfl) hK hV hS hPc hDc hFc) rfl rfl hl.1 rfl (lv_room (Nat.le_of_ble_eq_true rfl)) dX1_open_2 ⟨Nat.le_of_ble_eq_true rfl, Nat.le_of_ble_eq_true rfl⟩) hS (fun q _ h => hFc q h) hFc (fun u t H locs ht hvm hw hB hz1 hk1 hS => ?_)
  obtain ⟨hP1, hD1⟩ := hB
  rw [ht] at hP1
  obtain ⟨hP, hD⟩ := va_join (wr := []) (w1 := [(h0, .inr (1, [.ref k, .ref x, .ref y])), (k, .inl (cI, 32, .inl kf)), (x, .inl (cI, 16, .inl bf)), (y, .inl (cI, 16, .inl u))]) hP hD [0, 1, 2, 3] [] rfl rfl (by decide) (by decide) hk1 hFc hP1 hD1
  have hP : va_P (dC, dI) sd_cl [(h0, .inr (1, [.ref k, .ref x, .ref y])), (k, .inl (cI, 32, .inl kf)), (x, .inl (cI, 16, .inl bf)), (y, .inl (cI, 16, .inl u))] H := hP
  have hD : va_D A [(h0, .inr (1, [.ref k, .ref x, .ref y])), (k, .inl (cI, 32, .inl kf)), (x, .inl (cI, 16, .inl bf)), (y, .inl (cI, 16, .inl u))] := hD
  refine W.widen (k := 99) (n := 388) (by first | omega | (dsimp only; omega)) (by first | omega | (dsimp only; omega)) ?_
  exact W.vret hx hb hr (fun t ht hW => ⟨⟨u, rfl, hw, by rw [ht]; exact hP, hD⟩, hS.F ht⟩) hS.2.2 dX1_open_5
end
section
/-! ===== SeedDesk: the small methods ===== -/
set_option maxHeartbeats 4000000 in
set_option maxRecDepth 100000 in
/-- SeedDesk() -/
theorem mt_dinit (l : Launch) (dC : Nat → ClassId) (dI : Nat → Nat → Nat) (cB cI : ClassId) (h0 : Nat) (sz : Nat) : Met l yX0_init (ws_ yX0_init cX0_init 1 none) ({ frames := 1, cells := 3, slots := 64, locals := 12 } : Room) (va_Pc [.ref h0] (sd_pre (dC, dI) cB cI [(h0, .inr (0, [.null, .null, .null]))] sz)) (va_Qv (fun _ : Nat × Nat × Nat => True) (fun u t => va_P (dC, dI) sd_cl [(h0, .inr (0, [.ref u.1, .ref u.2.1, .ref u.2.2])), (u.1, .inl (cB, 32, .inl (fun _ => 0))), (u.2.1, .inl (cB, 16, .inl (fun _ => 0))), (u.2.2, .inl (cB, 16, .inl (fun _ => 0)))] t.heap ∧ va_D (va_A [(h0, .inr (0, [.null, .null, .null]))] sz) [(h0, .inr (0, [.ref u.1, .ref u.2.1, .ref u.2.2])), (u.1, .inl (cB, 32, .inl (fun _ => 0))), (u.2.1, .inl (cB, 16, .inl (fun _ => 0))), (u.2.2, .inl (cB, 16, .inl (fun _ => 0)))]) (va_A [(h0, .inr (0, [.null, .null, .null]))] sz)) 3 64 (va_A [(h0, .inr (0, [.null, .null, .null]))] sz) := by
  refine sd_metW (Qc := fun A => va_Qv (fun _ : Nat × Nat × Nat => True) (fun u t => va_P (dC, dI) sd_cl [(h0, .inr (0, [.ref u.1, .ref u.2.1, .ref u.2.2])), (u.1, .inl (cB, 32, .inl (fun _ => 0))), (u.2.1, .inl (cB, 16, .inl (fun _ => 0))), (u.2.2, .inl (cB, 16, .inl (fun _ => 0)))] t.heap ∧ va_D A [(h0, .inr (0, [.ref u.1, .ref u.2.1, .ref u.2.2])), (u.1, .inl (cB, 32, .inl (fun _ => 0))), (u.2.1, .inl (cB, 16, .inl (fun _ => 0))), (u.2.2, .inl (cB, 16, .inl (fun _ => 0)))]) A) (by decide) (Nat.le_of_ble_eq_true rfl) ?_
  intro p e s m below meth c ls A hx hb hr hml hts hown hlocks hname hP hK hD hV hA hS hl
  have hown : s.vm.findClass RX0 = some m.cls := hown
  have hl : lv_has ls 1 [(0, .ref h0)] := hl
  have hin : meth.name = "<init>" := hname
  refine lv_aload_n hx hb dX0_init_0 rfl (lv_at hl 0 rfl) ?_
  refine W.objInit hx hb hown (hts _ q34) (hts _ q35) (hts _ q36) rfl (by rw [hml]; exact hl.1) rfl dX0_init_1 (Nat.le_of_ble_eq_true rfl) (Nat.le_of_ble_eq_true rfl) ?_
  refine W.eq (g2 := F0 m 4 ls []) rfl ?_
  refine lv_aload_n hx hb dX0_init_4 rfl (lv_at hl 0 rfl) ?_
  refine lv_bipush (v := 32) hx hb dX0_init_5 (by decide) ?_
  refine sd_newB hx hb hts hK hP hD hS hA 32 (by decide) (by decide) (by decide) (Nat.le_of_ble_eq_true rfl) (Nat.le_of_ble_eq_true rfl) dX0_init_7 (fun k H hP hD hS => ?_)
  have hP : va_P (dC, dI) sd_cl [(h0, .inr (0, [.null, .null, .null])), (k, .inl (cB, 32, .inl (fun _ => 0)))] H := hP
  have hD : va_D A [(h0, .inr (0, [.null, .null, .null])), (k, .inl (cB, 32, .inl (fun _ => 0)))] := hD
  refine va_putF (D := (dC, dI)) (ci := 0) (v := .ref k) (ty := .array .byte) (C := RX0) (T := TX0) (N := 3) hx hb hts in_X0 tyX0 tyX0_ok nmX0 hown hK hP hD hS 0 rfl rfl 0 (by decide) (hts _ q37) (fun _ h9 => h9) rfl hin rfl (by decide +kernel) rfl rfl (Nat.le_of_ble_eq_true rfl) dX0_init_9 (fun H locs hP hD hS => ?_)
  have hP : va_P (dC, dI) sd_cl [(h0, .inr (0, [.ref k, .null, .null])), (k, .inl (cB, 32, .inl (fun _ => 0)))] H := hP
  have hD : va_D A [(h0, .inr (0, [.ref k, .null, .null])), (k, .inl (cB, 32, .inl (fun _ => 0)))] := hD
  refine lv_aload_n hx hb dX0_init_12 rfl (lv_at hl 0 rfl) ?_
  refine lv_bipush (v := 16) hx hb dX0_init_13 (by decide) ?_
  refine sd_newB hx hb hts hK hP hD hS hA 16 (by decide) (by decide) (by decide) (Nat.le_of_ble_eq_true rfl) (Nat.le_of_ble_eq_true rfl) dX0_init_15 (fun x H hP hD hS => ?_)
  have hP : va_P (dC, dI) sd_cl [(h0, .inr (0, [.ref k, .null, .null])), (k, .inl (cB, 32, .inl (fun _ => 0))), (x, .inl (cB, 16, .inl (fun _ => 0)))] H := hP
  have hD : va_D A [(h0, .inr (0, [.ref k, .null, .null])), (k, .inl (cB, 32, .inl (fun _ => 0))), (x, .inl (cB, 16, .inl (fun _ => 0)))] := hD
  refine va_putF (D := (dC, dI)) (ci := 0) (v := .ref x) (ty := .array .byte) (C := RX0) (T := TX0) (N := 3) hx hb hts in_X0 tyX0 tyX0_ok nmX0 hown hK hP hD hS 0 rfl rfl 1 (by decide) (hts _ q38) (fun _ h9 => h9) rfl hin rfl (by decide +kernel) rfl rfl (Nat.le_of_ble_eq_true rfl) dX0_init_17 (fun H locs hP hD hS => ?_)
  have hP : va_P (dC, dI) sd_cl [(h0, .inr (0, [.ref k, .ref x, .null])), (k, .inl (cB, 32, .inl (fun _ => 0))), (x, .inl (cB, 16, .inl (fun _ => 0)))] H := hP
  have hD : va_D A [(h0, .inr (0, [.ref k, .ref x, .null])), (k, .inl (cB, 32, .inl (fun _ => 0))), (x, .inl (cB, 16, .inl (fun _ => 0)))] := hD
  refine lv_aload_n hx hb dX0_init_20 rfl (lv_at hl 0 rfl) ?_
  refine lv_bipush (v := 16) hx hb dX0_init_21 (by decide) ?_
  refine sd_newB hx hb hts hK hP hD hS hA 16 (by decide) (by decide) (by decide) (Nat.le_of_ble_eq_true rfl) (Nat.le_of_ble_eq_true rfl) dX0_init_23 (fun y H hP hD hS => ?_)
  have hP : va_P (dC, dI) sd_cl [(h0, .inr (0, [.ref k, .ref x, .null])), (k, .inl (cB, 32, .inl (fun _ => 0))), (x, .inl (cB, 16, .inl (fun _ => 0))), (y, .inl (cB, 16, .inl (fun _ => 0)))] H := hP
  have hD : va_D A [(h0, .inr (0, [.ref k, .ref x, .null])), (k, .inl (cB, 32, .inl (fun _ => 0))), (x, .inl (cB, 16, .inl (fun _ => 0))), (y, .inl (cB, 16, .inl (fun _ => 0)))] := hD
  refine va_putF (D := (dC, dI)) (ci := 0) (v := .ref y) (ty := .array .byte) (C := RX0) (T := TX0) (N := 3) hx hb hts in_X0 tyX0 tyX0_ok nmX0 hown hK hP hD hS 0 rfl rfl 2 (by decide) (hts _ q39) (fun _ h9 => h9) rfl hin rfl (by decide +kernel) rfl rfl (Nat.le_of_ble_eq_true rfl) dX0_init_25 (fun H locs hP hD hS => ?_)
  have hP : va_P (dC, dI) sd_cl [(h0, .inr (0, [.ref k, .ref x, .ref y])), (k, .inl (cB, 32, .inl (fun _ => 0))), (x, .inl (cB, 16, .inl (fun _ => 0))), (y, .inl (cB, 16, .inl (fun _ => 0)))] H := hP
  have hD : va_D A [(h0, .inr (0, [.ref k, .ref x, .ref y])), (k, .inl (cB, 32, .inl (fun _ => 0))), (x, .inl (cB, 16, .inl (fun _ => 0))), (y, .inl (cB, 16, .inl (fun _ => 0)))] := hD
  refine W.widen (k := 3) (n := 64) (by first | omega | (dsimp only; omega)) (by first | omega | (dsimp only; omega)) ?_
  exact W.vret hx hb hr (fun t ht hW => ⟨⟨(k, x, y), rfl, trivial, by rw [ht]; exact hP, hD⟩, hS.F ht⟩) hS.2.2 dX0_init_28
theorem sd_wput (f : Nat → Int32) (o : Nat) (w : Int32) : (fun j => upd (upd (upd (upd f o ((w >>> ((24 : Int32) &&& 31)).toInt8.toInt32)) (o + 1) ((w >>> ((16 : Int32) &&& 31)).toInt8.toInt32)) (o + 2) ((w >>> ((8 : Int32) &&& 31)).toInt8.toInt32)) (o + 3) (w.toInt8.toInt32) j &&& 255) = sd_put (fun j => f j &&& 255) o w := by
  funext j
  unfold sd_put upd
  by_cases h3 : j = o + 3
  · rw [if_pos h3, if_pos (by omega), sd_wb3, show j - o = 3 by omega]
  · rw [if_neg h3]
    by_cases h2 : j = o + 2
    · rw [if_pos h2, if_pos (by omega), sd_wb2, show j - o = 2 by omega]
    · rw [if_neg h2]
      by_cases h1 : j = o + 1
      · rw [if_pos h1, if_pos (by omega), sd_wb1, show j - o = 1 by omega]
      · rw [if_neg h1]
        by_cases h0 : j = o
        · rw [if_pos h0, if_pos (by omega), sd_wb0, show j - o = 0 by omega]
        · rw [if_neg h0, if_neg (by omega)]
set_option maxHeartbeats 4000000 in
set_option maxRecDepth 100000 in
/-- word(to, o, w) -/
theorem mt_dword (l : Launch) (dC : Nat → ClassId) (dI : Nat → Nat → Nat) (cB cI : ClassId) (a o N : Nat) (hN : N < 2 ^ 31) (ho : o + 4 ≤ N) (f : Nat → Int32) (w : Int32) (sz : Nat) : Met l yX0_word (ws_ yX0_word cX0_word 3 none) ({ frames := 0, cells := 0, slots := 0, locals := 0 } : Room) (va_Pc [.ref a, .int (nI o), .int w] (sd_pre (dC, dI) cB cI [(a, .inl (cB, N, .inl f))] sz)) (va_Qv (fun u : Nat → Int32 => (fun j => u j &&& 255) = sd_put (fun j => f j &&& 255) o w) (fun u t => va_P (dC, dI) sd_cl [(a, .inl (cB, N, .inl u))] t.heap ∧ va_D (va_A [(a, .inl (cB, N, .inl f))] sz) [(a, .inl (cB, N, .inl u))]) (va_A [(a, .inl (cB, N, .inl f))] sz)) 0 0 (va_A [(a, .inl (cB, N, .inl f))] sz) := by
  refine sd_metW (Qc := fun A => va_Qv (fun u : Nat → Int32 => (fun j => u j &&& 255) = sd_put (fun j => f j &&& 255) o w) (fun u t => va_P (dC, dI) sd_cl [(a, .inl (cB, N, .inl u))] t.heap ∧ va_D A [(a, .inl (cB, N, .inl u))]) A) (by decide) (Nat.le_of_ble_eq_true rfl) ?_
  intro p e s m below meth c ls A hx hb hr hml hts hown hlocks hname hP hK hD hV hA hS hl
  have hown : s.vm.findClass RX0 = some m.cls := hown
  have hl : lv_has ls 3 [(0, .ref a), (1, .int (nI o)), (2, .int w)] := hl
  refine lv_aload_n hx hb dX0_word_0 rfl (lv_at hl 0 rfl) ?_
  refine lv_iload_n hx hb dX0_word_1 rfl (lv_at hl 1 rfl) ?_
  refine lv_iload_n hx hb dX0_word_2 rfl (lv_at hl 2 rfl) ?_
  refine lv_bipush (v := 24) hx hb dX0_word_3 (by decide) ?_
  refine lv_ishr hx hb dX0_word_5 ?_
  refine lv_i2b (v := (w >>> (24 &&& 31)).toInt8.toInt32) hx hb dX0_word_6 rfl ?_
  refine sd_bast (y := (w >>> (24 &&& 31)).toInt8.toInt32) hx hb hK hP hD hS 0 0 rfl rfl (k := o) (rfl) (by omega) (hN) (pk_vb _) dX0_word_7 (fun H locs hP hD hS => ?_)
  have hP : va_P (dC, dI) sd_cl [(a, .inl (cB, N, .inl (upd f o (w >>> (24 &&& 31)).toInt8.toInt32)))] H := hP
  have hD : va_D A [(a, .inl (cB, N, .inl (upd f o (w >>> (24 &&& 31)).toInt8.toInt32)))] := hD
  refine lv_aload_n hx hb dX0_word_8 rfl (lv_at hl 0 rfl) ?_
  refine lv_iload_n hx hb dX0_word_9 rfl (lv_at hl 1 rfl) ?_
  refine lv_iconst (v := 1) hx hb dX0_word_10 (by decide) ?_
  refine lv_iadd hx hb dX0_word_11 ?_
  refine lv_iload_n hx hb dX0_word_12 rfl (lv_at hl 2 rfl) ?_
  refine lv_bipush (v := 16) hx hb dX0_word_13 (by decide) ?_
  refine lv_ishr hx hb dX0_word_15 ?_
  refine lv_i2b (v := (w >>> (16 &&& 31)).toInt8.toInt32) hx hb dX0_word_16 rfl ?_
  refine sd_bast (y := (w >>> (16 &&& 31)).toInt8.toInt32) hx hb hK hP hD hS 0 0 rfl rfl (k := o + 1) (nI_add o 1) (by omega) (hN) (pk_vb _) dX0_word_17 (fun H locs hP hD hS => ?_)
  have hP : va_P (dC, dI) sd_cl [(a, .inl (cB, N, .inl (upd (upd f o (w >>> (24 &&& 31)).toInt8.toInt32) (o + 1) (w >>> (16 &&& 31)).toInt8.toInt32)))] H := hP
  have hD : va_D A [(a, .inl (cB, N, .inl (upd (upd f o (w >>> (24 &&& 31)).toInt8.toInt32) (o + 1) (w >>> (16 &&& 31)).toInt8.toInt32)))] := hD
  refine lv_aload_n hx hb dX0_word_18 rfl (lv_at hl 0 rfl) ?_
  refine lv_iload_n hx hb dX0_word_19 rfl (lv_at hl 1 rfl) ?_
  refine lv_iconst (v := 2) hx hb dX0_word_20 (by decide) ?_
  refine lv_iadd hx hb dX0_word_21 ?_
  refine lv_iload_n hx hb dX0_word_22 rfl (lv_at hl 2 rfl) ?_
  refine lv_bipush (v := 8) hx hb dX0_word_23 (by decide) ?_
  refine lv_ishr hx hb dX0_word_25 ?_
  refine lv_i2b (v := (w >>> (8 &&& 31)).toInt8.toInt32) hx hb dX0_word_26 rfl ?_
  refine sd_bast (y := (w >>> (8 &&& 31)).toInt8.toInt32) hx hb hK hP hD hS 0 0 rfl rfl (k := o + 2) (nI_add o 2) (by omega) (hN) (pk_vb _) dX0_word_27 (fun H locs hP hD hS => ?_)
  have hP : va_P (dC, dI) sd_cl [(a, .inl (cB, N, .inl (upd (upd (upd f o (w >>> (24 &&& 31)).toInt8.toInt32) (o + 1) (w >>> (16 &&& 31)).toInt8.toInt32) (o + 2) (w >>> (8 &&& 31)).toInt8.toInt32)))] H := hP
  have hD : va_D A [(a, .inl (cB, N, .inl (upd (upd (upd f o (w >>> (24 &&& 31)).toInt8.toInt32) (o + 1) (w >>> (16 &&& 31)).toInt8.toInt32) (o + 2) (w >>> (8 &&& 31)).toInt8.toInt32)))] := hD
  refine lv_aload_n hx hb dX0_word_28 rfl (lv_at hl 0 rfl) ?_
  refine lv_iload_n hx hb dX0_word_29 rfl (lv_at hl 1 rfl) ?_
  refine lv_iconst (v := 3) hx hb dX0_word_30 (by decide) ?_
  refine lv_iadd hx hb dX0_word_31 ?_
  refine lv_iload_n hx hb dX0_word_32 rfl (lv_at hl 2 rfl) ?_
  refine lv_i2b (v := w.toInt8.toInt32) hx hb dX0_word_33 rfl ?_
  refine sd_bast (y := w.toInt8.toInt32) hx hb hK hP hD hS 0 0 rfl rfl (k := o + 3) (nI_add o 3) (by omega) (hN) (pk_vb _) dX0_word_34 (fun H locs hP hD hS => ?_)
  have hP : va_P (dC, dI) sd_cl [(a, .inl (cB, N, .inl (upd (upd (upd (upd f o (w >>> (24 &&& 31)).toInt8.toInt32) (o + 1) (w >>> (16 &&& 31)).toInt8.toInt32) (o + 2) (w >>> (8 &&& 31)).toInt8.toInt32) (o + 3) (w.toInt8.toInt32))))] H := hP
  have hD : va_D A [(a, .inl (cB, N, .inl (upd (upd (upd (upd f o (w >>> (24 &&& 31)).toInt8.toInt32) (o + 1) (w >>> (16 &&& 31)).toInt8.toInt32) (o + 2) (w >>> (8 &&& 31)).toInt8.toInt32) (o + 3) (w.toInt8.toInt32))))] := hD
  exact W.vret hx hb hr (fun t ht hW => ⟨⟨_, rfl, sd_wput f o w, by rw [ht]; exact hP, hD⟩, hS.F ht⟩) hS.2.2 dX0_word_35
set_option maxHeartbeats 4000000 in
set_option maxRecDepth 100000 in
/-- key(half, a, b, c, d) -/
theorem mt_dkey (l : Launch) (dC : Nat → ClassId) (dI : Nat → Nat → Nat) (cB cI : ClassId) (h0 k x y : Nat) (f : Nat → Int32) (hf a b c_ d_ : Int32) (sz : Nat) : Met l yX0_key (ws_ yX0_key cX0_key 7 none) ({ frames := 1, cells := 0, slots := 0, locals := 22 } : Room) (va_Pc [.ref h0, .int hf, .int a, .int b, .int c_, .int d_] (sd_pre (dC, dI) cB cI [(h0, .inr (0, [.ref k, .ref x, .ref y])), (k, .inl (cB, 32, .inl f))] sz)) (va_Qv (fun u : Nat → Int32 => (fun j => u j &&& 255) = sd_put (sd_put (sd_put (sd_put (fun j => f j &&& 255) (sd_hf hf * 16) a) (sd_hf hf * 16 + 4) b) (sd_hf hf * 16 + 8) c_) (sd_hf hf * 16 + 12) d_) (fun u t => va_P (dC, dI) sd_cl [(h0, .inr (0, [.ref k, .ref x, .ref y])), (k, .inl (cB, 32, .inl u))] t.heap ∧ va_D (va_A [(h0, .inr (0, [.ref k, .ref x, .ref y])), (k, .inl (cB, 32, .inl f))] sz) [(h0, .inr (0, [.ref k, .ref x, .ref y])), (k, .inl (cB, 32, .inl u))]) (va_A [(h0, .inr (0, [.ref k, .ref x, .ref y])), (k, .inl (cB, 32, .inl f))] sz)) 0 0 (va_A [(h0, .inr (0, [.ref k, .ref x, .ref y])), (k, .inl (cB, 32, .inl f))] sz) := by
  refine sd_metW (Qc := fun A => va_Qv (fun u : Nat → Int32 => (fun j => u j &&& 255) = sd_put (sd_put (sd_put (sd_put (fun j => f j &&& 255) (sd_hf hf * 16) a) (sd_hf hf * 16 + 4) b) (sd_hf hf * 16 + 8) c_) (sd_hf hf * 16 + 12) d_) (fun u t => va_P (dC, dI) sd_cl [(h0, .inr (0, [.ref k, .ref x, .ref y])), (k, .inl (cB, 32, .inl u))] t.heap ∧ va_D A [(h0, .inr (0, [.ref k, .ref x, .ref y])), (k, .inl (cB, 32, .inl u))]) A) (by decide) (Nat.le_of_ble_eq_true rfl) ?_
  intro p e s m below meth c ls A hx hb hr hml hts hown hlocks hname hP hK hD hV hA hS hl
  have hown : s.vm.findClass RX0 = some m.cls := hown
  have hl : lv_has ls 7 [(0, .ref h0), (1, .int hf), (2, .int a), (3, .int b), (4, .int c_), (5, .int d_)] := hl
  have hh := sd_hf_lt hf
  refine lv_iload_n hx hb dX0_key_0 rfl (lv_at hl 1 rfl) ?_
  refine lv_iconst (v := 1) hx hb dX0_key_1 (by decide) ?_
  refine lv_iand hx hb dX0_key_2 ?_
  refine sd_top (y := (nI (sd_hf hf))) (pk_and hf 1 (by decide)) ?_
  refine lv_iconst (v := 4) hx hb dX0_key_3 (by decide) ?_
  refine lv_ishl hx hb dX0_key_4 ?_
  refine sd_top (y := (nI (sd_hf hf * 16))) (pk_shlN _ 4 (by decide) (by omega)) ?_
  refine lv_istore (lv' := [(6, .int (nI (sd_hf hf * 16))), (0, .ref h0), (1, .int hf), (2, .int a), (3, .int b), (4, .int c_), (5, .int d_)]) hx hb dX0_key_5 hl (by decide) rfl (fun ls hl => ?_)
  refine lv_aload_n hx hb dX0_key_7 rfl (lv_at hl 1 rfl) ?_
  refine va_get (D := (dC, dI)) (ci := 0) (v := .ref k) (C := RX0) (T := TX0) (N := 3) hx hb hts in_X0 hown hK hP 0 rfl rfl 0 (by decide) (hts _ q37) (fun _ h9 => h9) rfl dX0_key_8 ?_
  refine lv_iload hx hb dX0_key_11 (lv_at hl 0 rfl) ?_
  refine lv_iload_n hx hb dX0_key_13 rfl (lv_at hl 3 rfl) ?_
  have hPc := hP.sub (ws' := [(k, .inl (cB, 32, .inl f))]) [1] rfl
  have hDc := hD.sub (ws' := [(k, .inl (cB, 32, .inl f))]) [1] (by decide) rfl
  have hFc := va_free (wc := [(k, .inl (cB, 32, .inl f))]) hD hS hA [1] rfl
  refine va_callv (va_runS (As := [.ref k, .int (nI (sd_hf hf * 16)), .int a]) (rest := []) ⟨hx, hb, hml, hown, hts⟩ (mt_dword l dC dI cB cI k (sd_hf hf * 16) 32 (by decide) (by omega) f a s.heap.size) (va_cwS 3 hts (lw_S q52 q53 q16 q54) rfl rfl rfl (by decide +kernel) ⟨Nat.le_of_ble_eq_true rfl, Nat.le_of_ble_eq_true rfl⟩) (sd_preS hK hV hS hPc hDc hFc) rfl rfl hl.1 rfl (lv_room (Nat.le_of_ble_eq_true rfl)) dX0_key_14 ⟨Nat.le_of_ble_eq_true rfl, Nat.le_of_ble_eq_true rfl⟩) hS (fun q _ h => hFc q h) hFc (fun u1 t H locs ht hvm hu1 hB hz1 hk1 hS => ?_)
  obtain ⟨hP1, hD1⟩ := hB
  rw [ht] at hP1
  obtain ⟨hP, hD⟩ := va_join (wr := [(h0, .inr (0, [.ref k, .ref x, .ref y]))]) (w1 := [(k, .inl (cB, 32, .inl u1))]) hP hD [1] [0] rfl rfl (by decide) (by decide) hk1 hFc hP1 hD1
  have hP : va_P (dC, dI) sd_cl [(h0, .inr (0, [.ref k, .ref x, .ref y])), (k, .inl (cB, 32, .inl u1))] H := hP
  have hD : va_D A [(h0, .inr (0, [.ref k, .ref x, .ref y])), (k, .inl (cB, 32, .inl u1))] := hD
  refine lv_aload_n hx hb dX0_key_17 rfl (lv_at hl 1 rfl) ?_
  refine va_get (D := (dC, dI)) (ci := 0) (v := .ref k) (C := RX0) (T := TX0) (N := 3) hx hb hts in_X0 hown hK hP 0 rfl rfl 0 (by decide) (hts _ q37) (fun _ h9 => h9) rfl dX0_key_18 ?_
  refine lv_iload hx hb dX0_key_21 (lv_at hl 0 rfl) ?_
  refine lv_iconst (v := 4) hx hb dX0_key_23 (by decide) ?_
  refine lv_iadd hx hb dX0_key_24 ?_
  refine sd_top (y := (nI (sd_hf hf * 16 + 4))) (nI_add _ 4) ?_
  refine lv_iload_n hx hb dX0_key_25 rfl (lv_at hl 4 rfl) ?_
  have hPc := hP.sub (ws' := [(k, .inl (cB, 32, .inl u1))]) [1] rfl
  have hDc := hD.sub (ws' := [(k, .inl (cB, 32, .inl u1))]) [1] (by decide) rfl
  have hFc := va_free (wc := [(k, .inl (cB, 32, .inl u1))]) hD hS hA [1] rfl
  refine va_callv (va_runS (As := [.ref k, .int (nI (sd_hf hf * 16 + 4)), .int b]) (rest := []) ⟨hx, hb, hml, hown, hts⟩ (mt_dword l dC dI cB cI k (sd_hf hf * 16 + 4) 32 (by decide) (by omega) u1 b H.size) (va_cwS 3 hts (lw_S q52 q53 q16 q54) rfl rfl rfl (by decide +kernel) ⟨Nat.le_of_ble_eq_true rfl, Nat.le_of_ble_eq_true rfl⟩) (sd_preS hK hV hS hPc hDc hFc) rfl rfl hl.1 rfl (lv_room (Nat.le_of_ble_eq_true rfl)) dX0_key_26 ⟨Nat.le_of_ble_eq_true rfl, Nat.le_of_ble_eq_true rfl⟩) hS (fun q _ h => hFc q h) hFc (fun u2 t H locs ht hvm hu2 hB hz1 hk1 hS => ?_)
  obtain ⟨hP1, hD1⟩ := hB
  rw [ht] at hP1
  obtain ⟨hP, hD⟩ := va_join (wr := [(h0, .inr (0, [.ref k, .ref x, .ref y]))]) (w1 := [(k, .inl (cB, 32, .inl u2))]) hP hD [1] [0] rfl rfl (by decide) (by decide) hk1 hFc hP1 hD1
  have hP : va_P (dC, dI) sd_cl [(h0, .inr (0, [.ref k, .ref x, .ref y])), (k, .inl (cB, 32, .inl u2))] H := hP
  have hD : va_D A [(h0, .inr (0, [.ref k, .ref x, .ref y])), (k, .inl (cB, 32, .inl u2))] := hD
  refine lv_aload_n hx hb dX0_key_29 rfl (lv_at hl 1 rfl) ?_
  refine va_get (D := (dC, dI)) (ci := 0) (v := .ref k) (C := RX0) (T := TX0) (N := 3) hx hb hts in_X0 hown hK hP 0 rfl rfl 0 (by decide) (hts _ q37) (fun _ h9 => h9) rfl dX0_key_30 ?_
  refine lv_iload hx hb dX0_key_33 (lv_at hl 0 rfl) ?_
  refine lv_bipush (v := 8) hx hb dX0_key_35 (by decide) ?_
  refine lv_iadd hx hb dX0_key_37 ?_
  refine sd_top (y := (nI (sd_hf hf * 16 + 8))) (nI_add _ 8) ?_
  refine lv_iload hx hb dX0_key_38 (lv_at hl 5 rfl) ?_
  have hPc := hP.sub (ws' := [(k, .inl (cB, 32, .inl u2))]) [1] rfl
  have hDc := hD.sub (ws' := [(k, .inl (cB, 32, .inl u2))]) [1] (by decide) rfl
  have hFc := va_free (wc := [(k, .inl (cB, 32, .inl u2))]) hD hS hA [1] rfl
  refine va_callv (va_runS (As := [.ref k, .int (nI (sd_hf hf * 16 + 8)), .int c_]) (rest := []) ⟨hx, hb, hml, hown, hts⟩ (mt_dword l dC dI cB cI k (sd_hf hf * 16 + 8) 32 (by decide) (by omega) u2 c_ H.size) (va_cwS 3 hts (lw_S q52 q53 q16 q54) rfl rfl rfl (by decide +kernel) ⟨Nat.le_of_ble_eq_true rfl, Nat.le_of_ble_eq_true rfl⟩) (sd_preS hK hV hS hPc hDc hFc) rfl rfl hl.1 rfl (lv_room (Nat.le_of_ble_eq_true rfl)) dX0_key_40 ⟨Nat.le_of_ble_eq_true rfl, Nat.le_of_ble_eq_true rfl⟩) hS (fun q _ h => hFc q h) hFc (fun u3 t H locs ht hvm hu3 hB hz1 hk1 hS => ?_)
  obtain ⟨hP1, hD1⟩ := hB
  rw [ht] at hP1
  obtain ⟨hP, hD⟩ := va_join (wr := [(h0, .inr (0, [.ref k, .ref x, .ref y]))]) (w1 := [(k, .inl (cB, 32, .inl u3))]) hP hD [1] [0] rfl rfl (by decide) (by decide) hk1 hFc hP1 hD1
  have hP : va_P (dC, dI) sd_cl [(h0, .inr (0, [.ref k, .ref x, .ref y])), (k, .inl (cB, 32, .inl u3))] H := hP
  have hD : va_D A [(h0, .inr (0, [.ref k, .ref x, .ref y])), (k, .inl (cB, 32, .inl u3))] := hD
  refine lv_aload_n hx hb dX0_key_43 rfl (lv_at hl 1 rfl) ?_
  refine va_get (D := (dC, dI)) (ci := 0) (v := .ref k) (C := RX0) (T := TX0) (N := 3) hx hb hts in_X0 hown hK hP 0 rfl rfl 0 (by decide) (hts _ q37) (fun _ h9 => h9) rfl dX0_key_44 ?_
  refine lv_iload hx hb dX0_key_47 (lv_at hl 0 rfl) ?_
  refine lv_bipush (v := 12) hx hb dX0_key_49 (by decide) ?_
  refine lv_iadd hx hb dX0_key_51 ?_
  refine sd_top (y := (nI (sd_hf hf * 16 + 12))) (nI_add _ 12) ?_
  refine lv_iload hx hb dX0_key_52 (lv_at hl 6 rfl) ?_
  have hPc := hP.sub (ws' := [(k, .inl (cB, 32, .inl u3))]) [1] rfl
  have hDc := hD.sub (ws' := [(k, .inl (cB, 32, .inl u3))]) [1] (by decide) rfl
  have hFc := va_free (wc := [(k, .inl (cB, 32, .inl u3))]) hD hS hA [1] rfl
  refine va_callv (va_runS (As := [.ref k, .int (nI (sd_hf hf * 16 + 12)), .int d_]) (rest := []) ⟨hx, hb, hml, hown, hts⟩ (mt_dword l dC dI cB cI k (sd_hf hf * 16 + 12) 32 (by decide) (by omega) u3 d_ H.size) (va_cwS 3 hts (lw_S q52 q53 q16 q54) rfl rfl rfl (by decide +kernel) ⟨Nat.le_of_ble_eq_true rfl, Nat.le_of_ble_eq_true rfl⟩) (sd_preS hK hV hS hPc hDc hFc) rfl rfl hl.1 rfl (lv_room (Nat.le_of_ble_eq_true rfl)) dX0_key_54 ⟨Nat.le_of_ble_eq_true rfl, Nat.le_of_ble_eq_true rfl⟩) hS (fun q _ h => hFc q h) hFc (fun u4 t H locs ht hvm hu4 hB hz1 hk1 hS => ?_)
  obtain ⟨hP1, hD1⟩ := hB
  rw [ht] at hP1
  obtain ⟨hP, hD⟩ := va_join (wr := [(h0, .inr (0, [.ref k, .ref x, .ref y]))]) (w1 := [(k, .inl (cB, 32, .inl u4))]) hP hD [1] [0] rfl rfl (by decide) (by decide) hk1 hFc hP1 hD1
  have hP : va_P (dC, dI) sd_cl [(h0, .inr (0, [.ref k, .ref x, .ref y])), (k, .inl (cB, 32, .inl u4))] H := hP
  have hD : va_D A [(h0, .inr (0, [.ref k, .ref x, .ref y])), (k, .inl (cB, 32, .inl u4))] := hD
  exact W.vret hx hb hr (fun t ht hW => ⟨⟨u4, rfl, by show (fun j => u4 j &&& 255) = _; rw [hu4, hu3, hu2, hu1], by rw [ht]; exact hP, hD⟩, hS.F ht⟩) hS.2.2 dX0_key_57
set_option maxHeartbeats 4000000 in
set_option maxRecDepth 100000 in
/-- block(a, b, c, d) -/
theorem mt_dblock (l : Launch) (dC : Nat → ClassId) (dI : Nat → Nat → Nat) (cB cI : ClassId) (h0 k x y : Nat) (f : Nat → Int32) (a b c_ d_ : Int32) (sz : Nat) : Met l yX0_block (ws_ yX0_block cX0_block 5 none) ({ frames := 1, cells := 0, slots := 0, locals := 22 } : Room) (va_Pc [.ref h0, .int a, .int b, .int c_, .int d_] (sd_pre (dC, dI) cB cI [(h0, .inr (0, [.ref k, .ref x, .ref y])), (x, .inl (cB, 16, .inl f))] sz)) (va_Qv (fun u : Nat → Int32 => (fun j => u j &&& 255) = sd_put (sd_put (sd_put (sd_put (fun j => f j &&& 255) 0 a) 4 b) 8 c_) 12 d_) (fun u t => va_P (dC, dI) sd_cl [(h0, .inr (0, [.ref k, .ref x, .ref y])), (x, .inl (cB, 16, .inl u))] t.heap ∧ va_D (va_A [(h0, .inr (0, [.ref k, .ref x, .ref y])), (x, .inl (cB, 16, .inl f))] sz) [(h0, .inr (0, [.ref k, .ref x, .ref y])), (x, .inl (cB, 16, .inl u))]) (va_A [(h0, .inr (0, [.ref k, .ref x, .ref y])), (x, .inl (cB, 16, .inl f))] sz)) 0 0 (va_A [(h0, .inr (0, [.ref k, .ref x, .ref y])), (x, .inl (cB, 16, .inl f))] sz) := by
  refine sd_metW (Qc := fun A => va_Qv (fun u : Nat → Int32 => (fun j => u j &&& 255) = sd_put (sd_put (sd_put (sd_put (fun j => f j &&& 255) 0 a) 4 b) 8 c_) 12 d_) (fun u t => va_P (dC, dI) sd_cl [(h0, .inr (0, [.ref k, .ref x, .ref y])), (x, .inl (cB, 16, .inl u))] t.heap ∧ va_D A [(h0, .inr (0, [.ref k, .ref x, .ref y])), (x, .inl (cB, 16, .inl u))]) A) (by decide) (Nat.le_of_ble_eq_true rfl) ?_
  intro p e s m below meth c ls A hx hb hr hml hts hown hlocks hname hP hK hD hV hA hS hl
  have hown : s.vm.findClass RX0 = some m.cls := hown
  have hl : lv_has ls 5 [(0, .ref h0), (1, .int a), (2, .int b), (3, .int c_), (4, .int d_)] := hl
  refine lv_aload_n hx hb dX0_block_0 rfl (lv_at hl 0 rfl) ?_
  refine va_get (D := (dC, dI)) (ci := 0) (v := .ref x) (C := RX0) (T := TX0) (N := 3) hx hb hts in_X0 hown hK hP 0 rfl rfl 1 (by decide) (hts _ q38) (fun _ h9 => h9) rfl dX0_block_1 ?_
  refine lv_iconst (v := 0) hx hb dX0_block_4 (by decide) ?_
  refine lv_iload_n hx hb dX0_block_5 rfl (lv_at hl 1 rfl) ?_
  have hPc := hP.sub (ws' := [(x, .inl (cB, 16, .inl f))]) [1] rfl
  have hDc := hD.sub (ws' := [(x, .inl (cB, 16, .inl f))]) [1] (by decide) rfl
  have hFc := va_free (wc := [(x, .inl (cB, 16, .inl f))]) hD hS hA [1] rfl
  refine va_callv (va_runS (As := [.ref x, .int 0, .int a]) (rest := []) ⟨hx, hb, hml, hown, hts⟩ (mt_dword l dC dI cB cI x 0 16 (by decide) (by decide) f a s.heap.size) (va_cwS 3 hts (lw_S q52 q53 q16 q54) rfl rfl rfl (by decide +kernel) ⟨Nat.le_of_ble_eq_true rfl, Nat.le_of_ble_eq_true rfl⟩) (sd_preS hK hV hS hPc hDc hFc) rfl rfl hl.1 rfl (lv_room (Nat.le_of_ble_eq_true rfl)) dX0_block_6 ⟨Nat.le_of_ble_eq_true rfl, Nat.le_of_ble_eq_true rfl⟩) hS (fun q _ h => hFc q h) hFc (fun u1 t H locs ht hvm hu1 hB hz1 hk1 hS => ?_)
  obtain ⟨hP1, hD1⟩ := hB
  rw [ht] at hP1
  obtain ⟨hP, hD⟩ := va_join (wr := [(h0, .inr (0, [.ref k, .ref x, .ref y]))]) (w1 := [(x, .inl (cB, 16, .inl u1))]) hP hD [1] [0] rfl rfl (by decide) (by decide) hk1 hFc hP1 hD1
  have hP : va_P (dC, dI) sd_cl [(h0, .inr (0, [.ref k, .ref x, .ref y])), (x, .inl (cB, 16, .inl u1))] H := hP
  have hD : va_D A [(h0, .inr (0, [.ref k, .ref x, .ref y])), (x, .inl (cB, 16, .inl u1))] := hD
  refine lv_aload_n hx hb dX0_block_9 rfl (lv_at hl 0 rfl) ?_
  refine va_get (D := (dC, dI)) (ci := 0) (v := .ref x) (C := RX0) (T := TX0) (N := 3) hx hb hts in_X0 hown hK hP 0 rfl rfl 1 (by decide) (hts _ q38) (fun _ h9 => h9) rfl dX0_block_10 ?_
  refine lv_iconst (v := 4) hx hb dX0_block_13 (by decide) ?_
  refine lv_iload_n hx hb dX0_block_14 rfl (lv_at hl 2 rfl) ?_
  have hPc := hP.sub (ws' := [(x, .inl (cB, 16, .inl u1))]) [1] rfl
  have hDc := hD.sub (ws' := [(x, .inl (cB, 16, .inl u1))]) [1] (by decide) rfl
  have hFc := va_free (wc := [(x, .inl (cB, 16, .inl u1))]) hD hS hA [1] rfl
  refine va_callv (va_runS (As := [.ref x, .int 4, .int b]) (rest := []) ⟨hx, hb, hml, hown, hts⟩ (mt_dword l dC dI cB cI x 4 16 (by decide) (by decide) u1 b H.size) (va_cwS 3 hts (lw_S q52 q53 q16 q54) rfl rfl rfl (by decide +kernel) ⟨Nat.le_of_ble_eq_true rfl, Nat.le_of_ble_eq_true rfl⟩) (sd_preS hK hV hS hPc hDc hFc) rfl rfl hl.1 rfl (lv_room (Nat.le_of_ble_eq_true rfl)) dX0_block_15 ⟨Nat.le_of_ble_eq_true rfl, Nat.le_of_ble_eq_true rfl⟩) hS (fun q _ h => hFc q h) hFc (fun u2 t H locs ht hvm hu2 hB hz1 hk1 hS => ?_)
  obtain ⟨hP1, hD1⟩ := hB
  rw [ht] at hP1
  obtain ⟨hP, hD⟩ := va_join (wr := [(h0, .inr (0, [.ref k, .ref x, .ref y]))]) (w1 := [(x, .inl (cB, 16, .inl u2))]) hP hD [1] [0] rfl rfl (by decide) (by decide) hk1 hFc hP1 hD1
  have hP : va_P (dC, dI) sd_cl [(h0, .inr (0, [.ref k, .ref x, .ref y])), (x, .inl (cB, 16, .inl u2))] H := hP
  have hD : va_D A [(h0, .inr (0, [.ref k, .ref x, .ref y])), (x, .inl (cB, 16, .inl u2))] := hD
  refine lv_aload_n hx hb dX0_block_18 rfl (lv_at hl 0 rfl) ?_
  refine va_get (D := (dC, dI)) (ci := 0) (v := .ref x) (C := RX0) (T := TX0) (N := 3) hx hb hts in_X0 hown hK hP 0 rfl rfl 1 (by decide) (hts _ q38) (fun _ h9 => h9) rfl dX0_block_19 ?_
  refine lv_bipush (v := 8) hx hb dX0_block_22 (by decide) ?_
  refine lv_iload_n hx hb dX0_block_24 rfl (lv_at hl 3 rfl) ?_
  have hPc := hP.sub (ws' := [(x, .inl (cB, 16, .inl u2))]) [1] rfl
  have hDc := hD.sub (ws' := [(x, .inl (cB, 16, .inl u2))]) [1] (by decide) rfl
  have hFc := va_free (wc := [(x, .inl (cB, 16, .inl u2))]) hD hS hA [1] rfl
  refine va_callv (va_runS (As := [.ref x, .int 8, .int c_]) (rest := []) ⟨hx, hb, hml, hown, hts⟩ (mt_dword l dC dI cB cI x 8 16 (by decide) (by decide) u2 c_ H.size) (va_cwS 3 hts (lw_S q52 q53 q16 q54) rfl rfl rfl (by decide +kernel) ⟨Nat.le_of_ble_eq_true rfl, Nat.le_of_ble_eq_true rfl⟩) (sd_preS hK hV hS hPc hDc hFc) rfl rfl hl.1 rfl (lv_room (Nat.le_of_ble_eq_true rfl)) dX0_block_25 ⟨Nat.le_of_ble_eq_true rfl, Nat.le_of_ble_eq_true rfl⟩) hS (fun q _ h => hFc q h) hFc (fun u3 t H locs ht hvm hu3 hB hz1 hk1 hS => ?_)
  obtain ⟨hP1, hD1⟩ := hB
  rw [ht] at hP1
  obtain ⟨hP, hD⟩ := va_join (wr := [(h0, .inr (0, [.ref k, .ref x, .ref y]))]) (w1 := [(x, .inl (cB, 16, .inl u3))]) hP hD [1] [0] rfl rfl (by decide) (by decide) hk1 hFc hP1 hD1
  have hP : va_P (dC, dI) sd_cl [(h0, .inr (0, [.ref k, .ref x, .ref y])), (x, .inl (cB, 16, .inl u3))] H := hP
  have hD : va_D A [(h0, .inr (0, [.ref k, .ref x, .ref y])), (x, .inl (cB, 16, .inl u3))] := hD
  refine lv_aload_n hx hb dX0_block_28 rfl (lv_at hl 0 rfl) ?_
  refine va_get (D := (dC, dI)) (ci := 0) (v := .ref x) (C := RX0) (T := TX0) (N := 3) hx hb hts in_X0 hown hK hP 0 rfl rfl 1 (by decide) (hts _ q38) (fun _ h9 => h9) rfl dX0_block_29 ?_
  refine lv_bipush (v := 12) hx hb dX0_block_32 (by decide) ?_
  refine lv_iload hx hb dX0_block_34 (lv_at hl 4 rfl) ?_
  have hPc := hP.sub (ws' := [(x, .inl (cB, 16, .inl u3))]) [1] rfl
  have hDc := hD.sub (ws' := [(x, .inl (cB, 16, .inl u3))]) [1] (by decide) rfl
  have hFc := va_free (wc := [(x, .inl (cB, 16, .inl u3))]) hD hS hA [1] rfl
  refine va_callv (va_runS (As := [.ref x, .int 12, .int d_]) (rest := []) ⟨hx, hb, hml, hown, hts⟩ (mt_dword l dC dI cB cI x 12 16 (by decide) (by decide) u3 d_ H.size) (va_cwS 3 hts (lw_S q52 q53 q16 q54) rfl rfl rfl (by decide +kernel) ⟨Nat.le_of_ble_eq_true rfl, Nat.le_of_ble_eq_true rfl⟩) (sd_preS hK hV hS hPc hDc hFc) rfl rfl hl.1 rfl (lv_room (Nat.le_of_ble_eq_true rfl)) dX0_block_36 ⟨Nat.le_of_ble_eq_true rfl, Nat.le_of_ble_eq_true rfl⟩) hS (fun q _ h => hFc q h) hFc (fun u4 t H locs ht hvm hu4 hB hz1 hk1 hS => ?_)
  obtain ⟨hP1, hD1⟩ := hB
  rw [ht] at hP1
  obtain ⟨hP, hD⟩ := va_join (wr := [(h0, .inr (0, [.ref k, .ref x, .ref y]))]) (w1 := [(x, .inl (cB, 16, .inl u4))]) hP hD [1] [0] rfl rfl (by decide) (by decide) hk1 hFc hP1 hD1
  have hP : va_P (dC, dI) sd_cl [(h0, .inr (0, [.ref k, .ref x, .ref y])), (x, .inl (cB, 16, .inl u4))] H := hP
  have hD : va_D A [(h0, .inr (0, [.ref k, .ref x, .ref y])), (x, .inl (cB, 16, .inl u4))] := hD
  exact W.vret hx hb hr (fun t ht hW => ⟨⟨u4, rfl, by show (fun j => u4 j &&& 255) = _; rw [hu4, hu3, hu2, hu1], by rw [ht]; exact hP, hD⟩, hS.F ht⟩) hS.2.2 dX0_block_39
section SDdA
variable {p : Program} {l : Launch} {e : Env} {R : Room} {s : State} {m : MethodId} {args : Array Value} {below : List Frame} {meth : Method} {c : Code} {H : Heap} {locs : List Loc} {cells slots : Nat} {Q : State → Prop} {dC : Nat → ClassId} {dI : Nat → Nat → Nat} {cB cI : ClassId} {A : Nat → Prop}
set_option maxHeartbeats 4000000 in
set_option maxRecDepth 100000 in
/-- again's loop -/
theorem lp_dagain {f g : Nat → Int32} {h0 k x y : Nat} (hx : p.tables.exec = Jvm.exec) (hb : c.code = cX0_again) (hml : c.maxLocals = 2) (hown : s.vm.findClass RX0 = some m.cls) (hts : ∀ w ∈ lw_all, w.before args s = true) (hK : va_K (dC, dI) sd_cl (sd_ty cB cI) s) (hV : sd_V A s)
    (kk : ∀ (u : Nat → Int32) (H : Heap) (locs : List Loc) (ls : Array Slot), (∀ j, u j = if 0 ≤ j ∧ j < 0 + 16 then (fun j => (g j).toInt8.toInt32) (j - 0) else f j) → va_P (dC, dI) sd_cl [(h0, .inr (0, [.ref k, .ref x, .ref y])), (x, .inl (cB, 16, .inl u)), (y, .inl (cB, 16, .inl g))] H → va_D A [(h0, .inr (0, [.ref k, .ref x, .ref y])), (x, .inl (cB, 16, .inl u)), (y, .inl (cB, 16, .inl g))] → va_S A s.heap H locs → lv_has ls 2 [(0, .ref h0), (1, .int (nI 16))] → W p l e R s m args below meth c H locs cells slots Q (F0 m 26 ls [])) :
    ∀ (n i : Nat) (u : Nat → Int32) (H : Heap) (locs : List Loc) (ls : Array Slot), i + n = 16 → (∀ j, u j = if 0 ≤ j ∧ j < 0 + i then (fun j => (g j).toInt8.toInt32) (j - 0) else f j) → va_P (dC, dI) sd_cl [(h0, .inr (0, [.ref k, .ref x, .ref y])), (x, .inl (cB, 16, .inl u)), (y, .inl (cB, 16, .inl g))] H → va_D A [(h0, .inr (0, [.ref k, .ref x, .ref y])), (x, .inl (cB, 16, .inl u)), (y, .inl (cB, 16, .inl g))] → va_S A s.heap H locs → lv_has ls 2 [(0, .ref h0), (1, .int (nI i))] → W p l e R s m args below meth c H locs cells slots Q (F0 m 2 ls []) := by
  intro n
  induction n with
  | zero =>
    intro i u H locs ls hi hu hP hD hS hl
    obtain rfl : i = 16 := by omega
    refine lv_iload_n hx hb dX0_again_2 rfl (lv_at hl 1 rfl) ?_
    refine lv_bipush (v := 16) hx hb dX0_again_3 (by decide) ?_
    exact lv_icmp_ge (tgt := 26) hx hb dX0_again_5 (by decide) (fun _ => kk u H locs ls hu hP hD hS hl) (fun h => absurd (by decide) h)
  | succ n ih =>
    intro i u H locs ls hi hu hP hD hS hl
    refine lv_iload_n hx hb dX0_again_2 rfl (lv_at hl 1 rfl) ?_
    refine lv_bipush (v := 16) hx hb dX0_again_3 (by decide) ?_
    refine lv_icmp_ge (tgt := 26) hx hb dX0_again_5 (by decide) (fun h => absurd h (sd_g16 i (by omega))) (fun _ => ?_)
    refine lv_aload_n hx hb dX0_again_8 rfl (lv_at hl 0 rfl) ?_
    refine va_get (D := (dC, dI)) (ci := 0) (v := .ref x) (C := RX0) (T := TX0) (N := 3) hx hb hts in_X0 hown hK hP 0 rfl rfl 1 (by decide) (hts _ q38) (fun _ h9 => h9) rfl dX0_again_9 ?_
    refine lv_iload_n hx hb dX0_again_12 rfl (lv_at hl 1 rfl) ?_
    refine lv_aload_n hx hb dX0_again_13 rfl (lv_at hl 0 rfl) ?_
    refine va_get (D := (dC, dI)) (ci := 0) (v := .ref y) (C := RX0) (T := TX0) (N := 3) hx hb hts in_X0 hown hK hP 0 rfl rfl 2 (by decide) (hts _ q39) (fun _ h9 => h9) rfl dX0_again_14 ?_
    refine lv_iload_n hx hb dX0_again_17 rfl (lv_at hl 1 rfl) ?_
    refine sd_bald hx hb hK hP 2 0 rfl rfl (k := i) (rfl) (by omega) (by decide) dX0_again_18 ?_
    refine sd_bast (y := (g i).toInt8.toInt32) hx hb hK hP hD hS 1 0 rfl rfl (k := i) (rfl) (by omega) (by decide) (rfl) dX0_again_19 (fun H locs hP hD hS => ?_)
    have hP : va_P (dC, dI) sd_cl [(h0, .inr (0, [.ref k, .ref x, .ref y])), (x, .inl (cB, 16, .inl (upd u i (g i).toInt8.toInt32))), (y, .inl (cB, 16, .inl g))] H := hP
    have hD : va_D A [(h0, .inr (0, [.ref k, .ref x, .ref y])), (x, .inl (cB, 16, .inl (upd u i (g i).toInt8.toInt32))), (y, .inl (cB, 16, .inl g))] := hD
    refine lv_iinc (v := (nI (i + 1))) (lv' := [(1, .int (nI (i + 1))), (0, .ref h0)]) hx hb dX0_again_20 hl (k := 1) rfl (nI_1 i) (by decide) rfl (fun ls hl => ?_)
    refine lv_goto (tgt := 2) hx hb dX0_again_23 (by decide) ?_
    exact ih (i + 1) _ H locs ls (by omega) (sd_stp (b := (fun j => (g j).toInt8.toInt32)) hu (by omega)) hP hD hS (lv_sub hl [1, 0] rfl)
end SDdA
set_option maxHeartbeats 4000000 in
set_option maxRecDepth 100000 in
/-- again() -/
theorem mt_dagain (l : Launch) (dC : Nat → ClassId) (dI : Nat → Nat → Nat) (cB cI : ClassId) (h0 k x y : Nat) (f g : Nat → Int32) (sz : Nat) : Met l yX0_again (ws_ yX0_again cX0_again 2 none) ({ frames := 0, cells := 0, slots := 0, locals := 0 } : Room) (va_Pc [.ref h0] (sd_pre (dC, dI) cB cI [(h0, .inr (0, [.ref k, .ref x, .ref y])), (x, .inl (cB, 16, .inl f)), (y, .inl (cB, 16, .inl g))] sz)) (va_Qv (fun u : Nat → Int32 => ∀ j, j < 16 → u j &&& 255 = g j &&& 255) (fun u t => va_P (dC, dI) sd_cl [(h0, .inr (0, [.ref k, .ref x, .ref y])), (x, .inl (cB, 16, .inl u)), (y, .inl (cB, 16, .inl g))] t.heap ∧ va_D (va_A [(h0, .inr (0, [.ref k, .ref x, .ref y])), (x, .inl (cB, 16, .inl f)), (y, .inl (cB, 16, .inl g))] sz) [(h0, .inr (0, [.ref k, .ref x, .ref y])), (x, .inl (cB, 16, .inl u)), (y, .inl (cB, 16, .inl g))]) (va_A [(h0, .inr (0, [.ref k, .ref x, .ref y])), (x, .inl (cB, 16, .inl f)), (y, .inl (cB, 16, .inl g))] sz)) 0 0 (va_A [(h0, .inr (0, [.ref k, .ref x, .ref y])), (x, .inl (cB, 16, .inl f)), (y, .inl (cB, 16, .inl g))] sz) := by
  refine sd_metW (Qc := fun A => va_Qv (fun u : Nat → Int32 => ∀ j, j < 16 → u j &&& 255 = g j &&& 255) (fun u t => va_P (dC, dI) sd_cl [(h0, .inr (0, [.ref k, .ref x, .ref y])), (x, .inl (cB, 16, .inl u)), (y, .inl (cB, 16, .inl g))] t.heap ∧ va_D A [(h0, .inr (0, [.ref k, .ref x, .ref y])), (x, .inl (cB, 16, .inl u)), (y, .inl (cB, 16, .inl g))]) A) (by decide) (Nat.le_of_ble_eq_true rfl) ?_
  intro p e s m below meth c ls A hx hb hr hml hts hown hlocks hname hP hK hD hV hA hS hl
  have hown : s.vm.findClass RX0 = some m.cls := hown
  have hl : lv_has ls 2 [(0, .ref h0)] := hl
  refine lv_iconst (v := 0) hx hb dX0_again_0 (by decide) ?_
  refine lv_istore_n (lv' := [(1, .int 0), (0, .ref h0)]) hx hb dX0_again_1 rfl hl (by decide) rfl (fun ls hl => ?_)
  refine lp_dagain hx hb hml hown hts hK hV (fun u H locs ls hu hP hD hS hl => ?_) 16 0 f _ _ ls rfl (sd_stp0 (b := (fun j => (g j).toInt8.toInt32))) hP hD hS (lv_sub hl [1, 0] rfl)
  exact W.vret hx hb hr (fun t ht hW => ⟨⟨u, rfl, fun j hj => by rw [hu j, if_pos (by omega)]; exact bp_b (g j), by rw [ht]; exact hP, hD⟩, hS.F ht⟩) hS.2.2 dX0_again_26
set_option maxHeartbeats 4000000 in
set_option maxRecDepth 100000 in
/-- out(i) -/
theorem mt_dout (l : Launch) (dC : Nat → ClassId) (dI : Nat → Nat → Nat) (cB cI : ClassId) (h0 k x y : Nat) (g : Nat → Int32) (i : Int32) : Met l yX0_out (ws_ yX0_out cX0_out 2 (some .int)) ({ frames := 0, cells := 0, slots := 0, locals := 0 } : Room) (va_Pc [.ref h0, .int i] (sd_pur (dC, dI) cB cI [(h0, .inr (0, [.ref k, .ref x, .ref y])), (y, .inl (cB, 16, .inl g))])) (vp_Si (fun r => r = g (i.toBitVec.toNat % 16) &&& 255)) 0 0 (fun _ => False) := by
  refine sd_met (by decide) (Nat.le_of_ble_eq_true rfl) ?_
  intro p e s m below meth c ls hx hb hr hml hts hown hlocks hname hB hl
  obtain ⟨hP, hK, hV⟩ := hB
  have hS : va_S (fun _ => False) s.heap s.heap [] := va_S.rf
  have hown : s.vm.findClass RX0 = some m.cls := hown
  have hl : lv_has ls 2 [(0, .ref h0), (1, .int i)] := hl
  refine lv_aload_n hx hb dX0_out_0 rfl (lv_at hl 0 rfl) ?_
  refine va_get (D := (dC, dI)) (ci := 0) (v := .ref y) (C := RX0) (T := TX0) (N := 3) hx hb hts in_X0 hown hK hP 0 rfl rfl 2 (by decide) (hts _ q39) (fun _ h9 => h9) rfl dX0_out_1 ?_
  refine lv_iload_n hx hb dX0_out_4 rfl (lv_at hl 1 rfl) ?_
  refine lv_bipush (v := 15) hx hb dX0_out_5 (by decide) ?_
  refine lv_iand hx hb dX0_out_7 ?_
  refine sd_top (y := (nI (i.toBitVec.toNat % 16))) (pk_and i 4 (by decide)) ?_
  refine sd_bald hx hb hK hP 1 0 rfl rfl (k := i.toBitVec.toNat % 16) (rfl) (Nat.mod_lt _ (by decide)) (by decide) dX0_out_8 ?_
  refine lv_sipush (v := 255) hx hb dX0_out_9 (by decide) ?_
  refine lv_iand hx hb dX0_out_12 ?_
  exact W.iret (v := ((g (i.toBitVec.toNat % 16)) &&& 255)) hx hb hr (fun t ht hW => ⟨_, rfl, rfl, ht⟩) (fun q h => absurd h List.not_mem_nil) dX0_out_13
/-! ===== SeedDesk.run ===== -/
theorem sd_F {own : String} {idx : Nat} {C : String} {x y : MethodName} {b : ByteArray} {L : Nat} {r : Option FieldType} (h1 : Cond.methodLink own idx x ∈ lw_all) (h2 : Cond.selects C x y ∈ lw_all) (h3 : Cond.instanceMethod y ∈ lw_all) (h4 : Cond.initialized y.cls ∈ lw_all) (h5 : Cond.code y b L r ∈ lw_all) : GoodIn lw_all (va_wsF own idx C x y (ws_ y b L r)) := by
  refine lw_app ?_ (lw_meth h5)
  intro w hw
  simp only [List.mem_cons, List.not_mem_nil, or_false] at hw
  rcases hw with e | e | e | e
  · rw [e]; exact h1
  · rw [e]; exact h2
  · rw [e]; exact h3
  · rw [e]; exact h4
set_option maxHeartbeats 4000000 in
set_option maxRecDepth 100000 in
/-- size(kind) -/
theorem mt_size (l : Launch) (dC : Nat → ClassId) (dI : Nat → Nat → Nat) (cB cI : ClassId) (i : Int32) : Met l yX0_size (ws_ yX0_size cX0_size 1 (some .int)) ({ frames := 0, cells := 0, slots := 0, locals := 0 } : Room) (va_Pc [.int i] (sd_pur (dC, dI) cB cI [])) (vp_Si (fun r => r = 16)) 0 0 (fun _ => False) := by
  refine sd_met (by decide) (Nat.le_of_ble_eq_true rfl) ?_
  intro p e s m below meth c ls hx hb hr hml hts hown hlocks hname hB hl
  obtain ⟨hP, hK, hV⟩ := hB
  have hS : va_S (fun _ => False) s.heap s.heap [] := va_S.rf
  have hown : s.vm.findClass RX0 = some m.cls := hown
  have hl : lv_has ls 1 [(0, .int i)] := hl
  refine lv_bipush (v := 16) hx hb dX0_size_0 (by decide) ?_
  exact W.iret (v := 16) hx hb hr (fun t ht hW => ⟨_, rfl, rfl, ht⟩) (fun q h => absurd h List.not_mem_nil) dX0_size_2
section SDD1
variable {p : Program} {l : Launch} {e : Env} {R : Room} {s : State} {m : MethodId} {args : Array Value} {below : List Frame} {meth : Method} {c : Code} {H : Heap} {locs : List Loc} {cells slots : Nat} {Q : State → Prop} {dC : Nat → ClassId} {dI : Nat → Nat → Nat} {cB cI : ClassId} {A : Nat → Prop}
set_option maxHeartbeats 4000000 in
set_option maxRecDepth 100000 in
/-- run's copy -/
theorem lp_copy {kf bf of : Nat → Int32} {b : Int32} {h0 k x y q : Nat} (hx : p.tables.exec = Jvm.exec) (hb : c.code = cX0_run) (hml : c.maxLocals = 6) (hown : s.vm.findClass RX0 = some m.cls) (hts : ∀ w ∈ lw_all, w.before args s = true) (hK : va_K (dC, dI) sd_cl (sd_ty cB cI) s) (hV : sd_V A s)
    (kk : ∀ (u : Nat → Int32) (H : Heap) (locs : List Loc) (ls : Array Slot), (∀ j, u j = if 0 ≤ j ∧ j < 0 + 16 then (fun j => (kf j).toInt8.toInt32) (j - 0) else 0) → va_P (dC, dI) sd_cl [(h0, .inr (0, [.ref k, .ref x, .ref y])), (k, .inl (cB, 32, .inl kf)), (x, .inl (cB, 16, .inl bf)), (y, .inl (cB, 16, .inl of)), (q, .inl (cB, 16, .inl u))] H → va_D A [(h0, .inr (0, [.ref k, .ref x, .ref y])), (k, .inl (cB, 32, .inl kf)), (x, .inl (cB, 16, .inl bf)), (y, .inl (cB, 16, .inl of)), (q, .inl (cB, 16, .inl u))] → va_S A s.heap H locs → lv_has ls 6 [(0, .ref h0), (1, .int b), (3, .int 16), (4, .ref q), (5, .int (nI 16))] → W p l e R s m args below meth c H locs cells slots Q (F0 m 39 ls [])) :
    ∀ (n i : Nat) (u : Nat → Int32) (H : Heap) (locs : List Loc) (ls : Array Slot), i + n = 16 → (∀ j, u j = if 0 ≤ j ∧ j < 0 + i then (fun j => (kf j).toInt8.toInt32) (j - 0) else 0) → va_P (dC, dI) sd_cl [(h0, .inr (0, [.ref k, .ref x, .ref y])), (k, .inl (cB, 32, .inl kf)), (x, .inl (cB, 16, .inl bf)), (y, .inl (cB, 16, .inl of)), (q, .inl (cB, 16, .inl u))] H → va_D A [(h0, .inr (0, [.ref k, .ref x, .ref y])), (k, .inl (cB, 32, .inl kf)), (x, .inl (cB, 16, .inl bf)), (y, .inl (cB, 16, .inl of)), (q, .inl (cB, 16, .inl u))] → va_S A s.heap H locs → lv_has ls 6 [(0, .ref h0), (1, .int b), (3, .int 16), (4, .ref q), (5, .int (nI i))] → W p l e R s m args below meth c H locs cells slots Q (F0 m 15 ls []) := by
  intro n
  induction n with
  | zero =>
    intro i u H locs ls hi hu hP hD hS hl
    obtain rfl : i = 16 := by omega
    refine lv_iload hx hb dX0_run_15 (lv_at hl 4 rfl) ?_
    refine lv_iload_n hx hb dX0_run_17 rfl (lv_at hl 2 rfl) ?_
    exact lv_icmp_ge (tgt := 39) hx hb dX0_run_18 (by decide) (fun _ => kk u H locs ls hu hP hD hS hl) (fun h => absurd (by decide) h)
  | succ n ih =>
    intro i u H locs ls hi hu hP hD hS hl
    refine lv_iload hx hb dX0_run_15 (lv_at hl 4 rfl) ?_
    refine lv_iload_n hx hb dX0_run_17 rfl (lv_at hl 2 rfl) ?_
    refine lv_icmp_ge (tgt := 39) hx hb dX0_run_18 (by decide) (fun h => absurd h (sd_g16 i (by omega))) (fun _ => ?_)
    refine lv_aload hx hb dX0_run_21 (lv_at hl 3 rfl) ?_
    refine lv_iload hx hb dX0_run_23 (lv_at hl 4 rfl) ?_
    refine lv_aload_n hx hb dX0_run_25 rfl (lv_at hl 0 rfl) ?_
    refine va_get (D := (dC, dI)) (ci := 0) (v := .ref k) (C := RX0) (T := TX0) (N := 3) hx hb hts in_X0 hown hK hP 0 rfl rfl 0 (by decide) (hts _ q37) (fun _ h9 => h9) rfl dX0_run_26 ?_
    refine lv_iload hx hb dX0_run_29 (lv_at hl 4 rfl) ?_
    refine sd_bald hx hb hK hP 1 0 rfl rfl (k := i) (rfl) (by omega) (by decide) dX0_run_31 ?_
    refine sd_bast (y := (kf i).toInt8.toInt32) hx hb hK hP hD hS 4 0 rfl rfl (k := i) (rfl) (by omega) (by decide) (rfl) dX0_run_32 (fun H locs hP hD hS => ?_)
    have hP : va_P (dC, dI) sd_cl [(h0, .inr (0, [.ref k, .ref x, .ref y])), (k, .inl (cB, 32, .inl kf)), (x, .inl (cB, 16, .inl bf)), (y, .inl (cB, 16, .inl of)), (q, .inl (cB, 16, .inl (upd u i (kf i).toInt8.toInt32)))] H := hP
    have hD : va_D A [(h0, .inr (0, [.ref k, .ref x, .ref y])), (k, .inl (cB, 32, .inl kf)), (x, .inl (cB, 16, .inl bf)), (y, .inl (cB, 16, .inl of)), (q, .inl (cB, 16, .inl (upd u i (kf i).toInt8.toInt32)))] := hD
    refine lv_iinc (v := (nI (i + 1))) (lv' := [(5, .int (nI (i + 1))), (0, .ref h0), (1, .int b), (3, .int 16), (4, .ref q)]) hx hb dX0_run_33 hl (k := 4) rfl (nI_1 i) (by decide) rfl (fun ls hl => ?_)
    refine lv_goto (tgt := 15) hx hb dX0_run_36 (by decide) ?_
    exact ih (i + 1) _ H locs ls (by omega) (sd_stp (b := (fun j => (kf j).toInt8.toInt32)) (f := fun _ => 0) hu (by omega)) hP hD hS (lv_sub hl [1, 2, 3, 4, 0] rfl)
end SDD1
theorem sd_drend {b : Int32} {kf bf K v w u2 : Nat → Int32} (hv : ∀ j, v j = if 0 ≤ j ∧ j < 0 + 16 then (fun j => (kf j).toInt8.toInt32) (j - 0) else 0) (hw : ∀ j, j < 16 → w j = v j) (hK : ∀ j, j < 32 → K j = sd_rk (sd_w4 (fun j => w j &&& 255) 0) (sd_w4 (fun j => w j &&& 255) 4) (sd_w4 (fun j => w j &&& 255) 8) (sd_w4 (fun j => w j &&& 255) 12) j)
    (hu : ∀ j, j < 16 → u2 j &&& 255 = if j < 4 then sd_by (sd_rs K (sd_or b) (sd_w4 (fun j => bf j &&& 255) 0, sd_w4 (fun j => bf j &&& 255) 4, sd_w4 (fun j => bf j &&& 255) 8, sd_w4 (fun j => bf j &&& 255) 12) 16).2.2.1 j else if j < 8 then sd_by (sd_rs K (sd_or b) (sd_w4 (fun j => bf j &&& 255) 0, sd_w4 (fun j => bf j &&& 255) 4, sd_w4 (fun j => bf j &&& 255) 8, sd_w4 (fun j => bf j &&& 255) 12) 16).2.2.2 (j - 4) else if j < 12 then sd_by (sd_rs K (sd_or b) (sd_w4 (fun j => bf j &&& 255) 0, sd_w4 (fun j => bf j &&& 255) 4, sd_w4 (fun j => bf j &&& 255) 8, sd_w4 (fun j => bf j &&& 255) 12) 16).1 (j - 8) else sd_by (sd_rs K (sd_or b) (sd_w4 (fun j => bf j &&& 255) 0, sd_w4 (fun j => bf j &&& 255) 4, sd_w4 (fun j => bf j &&& 255) 8, sd_w4 (fun j => bf j &&& 255) 12) 16).2.1 (j - 12)) :
    ∀ j, j < 16 → u2 j &&& 255 = sd_ans b (fun j => kf j &&& 255) (fun j => bf j &&& 255) j := by
  intro j hj
  have hk : ∀ j, j < 16 → (fun j => w j &&& 255) j = (fun j => kf j &&& 255) j := by
    intro j hj
    show w j &&& 255 = kf j &&& 255
    rw [hw j hj, hv j, if_pos (by omega)]
    exact bp_b (kf j)
  have hf : sd_rs K (sd_or b) (sd_w4 (fun j => bf j &&& 255) 0, sd_w4 (fun j => bf j &&& 255) 4, sd_w4 (fun j => bf j &&& 255) 8, sd_w4 (fun j => bf j &&& 255) 12) 16 = sd_fin b (fun j => kf j &&& 255) (fun j => bf j &&& 255) := by
    unfold sd_fin
    rw [sd_rs_congr 16 hK (fun k hk => sd_or_lt b hk) 16 (Nat.le_refl _)]
    rw [sd_w4_congr (o := 0) hk (by omega), sd_w4_congr (o := 4) hk (by omega), sd_w4_congr (o := 8) hk (by omega), sd_w4_congr (o := 12) hk (by omega)]
  rw [hu j hj, hf, sd_ans]
theorem sd_drfit {kf v : Nat → Int32} (hv : ∀ j, v j = if 0 ≤ j ∧ j < 0 + 16 then (fun j => (kf j).toInt8.toInt32) (j - 0) else 0) : ∀ i, i < 16 → fits .byte (.int (v i)) = true := by
  intro i hi
  rw [hv i, if_pos (by omega)]
  exact pk_fb _
set_option maxHeartbeats 4000000 in
set_option maxRecDepth 100000 in
/-- run(b, kind) -/
theorem mt_drun (l : Launch) (dC : Nat → ClassId) (dI : Nat → Nat → Nat) (cB cI : ClassId) (h0 k x y : Nat) (b i : Int32) (hbn : narrow .boolean (.int b) = .int b) (hbf : fits .boolean (.int b) = true) (kf bf of : Nat → Int32) (sz : Nat) : Met l yX0_run (ws_ yX0_run cX0_run 6 none) ({ frames := 5, cells := 5, slots := 68, locals := 128 } : Room) (va_Pc [.ref h0, .int b, .int i] (sd_pre (dC, dI) cB cI [(h0, .inr (0, [.ref k, .ref x, .ref y])), (k, .inl (cB, 32, .inl kf)), (x, .inl (cB, 16, .inl bf)), (y, .inl (cB, 16, .inl of))] sz)) (va_Qv (fun u : Nat → Int32 => ∀ j, j < 16 → u j &&& 255 = sd_ans b (fun j => kf j &&& 255) (fun j => bf j &&& 255) j) (fun u t => va_P (dC, dI) sd_cl [(h0, .inr (0, [.ref k, .ref x, .ref y])), (k, .inl (cB, 32, .inl kf)), (x, .inl (cB, 16, .inl bf)), (y, .inl (cB, 16, .inl u))] t.heap ∧ va_D (va_A [(h0, .inr (0, [.ref k, .ref x, .ref y])), (k, .inl (cB, 32, .inl kf)), (x, .inl (cB, 16, .inl bf)), (y, .inl (cB, 16, .inl of))] sz) [(h0, .inr (0, [.ref k, .ref x, .ref y])), (k, .inl (cB, 32, .inl kf)), (x, .inl (cB, 16, .inl bf)), (y, .inl (cB, 16, .inl u))]) (va_A [(h0, .inr (0, [.ref k, .ref x, .ref y])), (k, .inl (cB, 32, .inl kf)), (x, .inl (cB, 16, .inl bf)), (y, .inl (cB, 16, .inl of))] sz)) 5 68 (va_A [(h0, .inr (0, [.ref k, .ref x, .ref y])), (k, .inl (cB, 32, .inl kf)), (x, .inl (cB, 16, .inl bf)), (y, .inl (cB, 16, .inl of))] sz) := by
  refine sd_metW (Qc := fun A => va_Qv (fun u : Nat → Int32 => ∀ j, j < 16 → u j &&& 255 = sd_ans b (fun j => kf j &&& 255) (fun j => bf j &&& 255) j) (fun u t => va_P (dC, dI) sd_cl [(h0, .inr (0, [.ref k, .ref x, .ref y])), (k, .inl (cB, 32, .inl kf)), (x, .inl (cB, 16, .inl bf)), (y, .inl (cB, 16, .inl u))] t.heap ∧ va_D A [(h0, .inr (0, [.ref k, .ref x, .ref y])), (k, .inl (cB, 32, .inl kf)), (x, .inl (cB, 16, .inl bf)), (y, .inl (cB, 16, .inl u))]) A) (by decide) (Nat.le_of_ble_eq_true rfl) ?_
  intro p e s m below meth c ls A hx hb hr hml hts hown hlocks hname hP hK hD hV hA hS hl
  have hown : s.vm.findClass RX0 = some m.cls := hown
  have hl : lv_has ls 6 [(0, .ref h0), (1, .int b), (2, .int i)] := hl
  refine lv_iload_n hx hb dX0_run_0 rfl (lv_at hl 2 rfl) ?_
  refine lv_iconst (v := 3) hx hb dX0_run_1 (by decide) ?_
  refine lv_iand hx hb dX0_run_2 ?_
  refine vp_callSi (va_runS (As := [.int (i &&& 3)]) (rest := []) ⟨hx, hb, hml, hown, hts⟩ (mt_size l dC dI cB cI (i &&& 3)) (va_cwS 1 hts (lw_S q67 q68 q16 q69) rfl rfl rfl (by decide +kernel) ⟨Nat.le_of_ble_eq_true rfl, Nat.le_of_ble_eq_true rfl⟩) (sd_purS hK hV hS (hP.sub [] rfl)) rfl rfl hl.1 rfl (lv_room (Nat.le_of_ble_eq_true rfl)) dX0_run_3 ⟨Nat.le_of_ble_eq_true rfl, Nat.le_of_ble_eq_true rfl⟩).run (fun r1 hr1 => ?_)
  refine sd_top (y := 16) (hr1) ?_
  refine lv_istore_n (lv' := [(3, .int 16), (0, .ref h0), (1, .int b), (2, .int i)]) hx hb dX0_run_6 rfl hl (by decide) rfl (fun ls hl => ?_)
  refine lv_iload_n hx hb dX0_run_7 rfl (lv_at hl 0 rfl) ?_
  refine sd_newB hx hb hts hK hP hD hS hA 16 (by decide) (by decide) (by decide) (Nat.le_of_ble_eq_true rfl) (Nat.le_of_ble_eq_true rfl) dX0_run_8 (fun q H hP hD hS => ?_)
  have hP : va_P (dC, dI) sd_cl [(h0, .inr (0, [.ref k, .ref x, .ref y])), (k, .inl (cB, 32, .inl kf)), (x, .inl (cB, 16, .inl bf)), (y, .inl (cB, 16, .inl of)), (q, .inl (cB, 16, .inl (fun _ => 0)))] H := hP
  have hD : va_D A [(h0, .inr (0, [.ref k, .ref x, .ref y])), (k, .inl (cB, 32, .inl kf)), (x, .inl (cB, 16, .inl bf)), (y, .inl (cB, 16, .inl of)), (q, .inl (cB, 16, .inl (fun _ => 0)))] := hD
  refine W.widen (k := 1) (n := 16) (by first | omega | (dsimp only; omega)) (by first | omega | (dsimp only; omega)) ?_
  refine lv_astore (lv' := [(4, .ref q), (3, .int 16), (0, .ref h0), (1, .int b), (2, .int i)]) hx hb dX0_run_10 hl (by decide) rfl (fun ls hl => ?_)
  refine lv_iconst (v := 0) hx hb dX0_run_12 (by decide) ?_
  refine lv_istore (lv' := [(5, .int 0), (4, .ref q), (3, .int 16), (0, .ref h0), (1, .int b), (2, .int i)]) hx hb dX0_run_13 hl (by decide) rfl (fun ls hl => ?_)
  refine lp_copy hx hb hml hown hts hK hV (fun v H locs ls hv hP hD hS hl => ?_) 16 0 (fun _ => 0) _ _ ls rfl (sd_stp0 (b := (fun j => (kf j).toInt8.toInt32)) (f := fun _ => 0)) hP hD hS (lv_sub hl [3, 4, 2, 1, 0] rfl)
  refine va_new (ci := 2) (fs := [.int 0, .null, .int 0]) (C := RX2) (T := TX2) (N := 3) hx hb hts in_X2 tyX2 tyX2_ok hown (hts _ q70) (hts _ q71) (hts _ q18) hK hP hD hS hA rfl (fun j hj => by rcases (show j = 0 ∨ j = 1 ∨ j = 2 by omega) with rfl | rfl | rfl <;> rfl) (Nat.le_of_ble_eq_true rfl) (Nat.le_of_ble_eq_true rfl) dX0_run_39 (fun g0 H hP hD hS => ?_)
  have hP : va_P (dC, dI) sd_cl [(h0, .inr (0, [.ref k, .ref x, .ref y])), (k, .inl (cB, 32, .inl kf)), (x, .inl (cB, 16, .inl bf)), (y, .inl (cB, 16, .inl of)), (q, .inl (cB, 16, .inl v)), (g0, .inr (2, [.int 0, .null, .int 0]))] H := hP
  have hD : va_D A [(h0, .inr (0, [.ref k, .ref x, .ref y])), (k, .inl (cB, 32, .inl kf)), (x, .inl (cB, 16, .inl bf)), (y, .inl (cB, 16, .inl of)), (q, .inl (cB, 16, .inl v)), (g0, .inr (2, [.int 0, .null, .int 0]))] := hD
  refine lv_dup hx hb dX0_run_42 rfl ?_
  have hPc := hP.sub (ws' := [(g0, .inr (2, [.int 0, .null, .int 0]))]) [5] rfl
  have hDc := hD.sub (ws' := [(g0, .inr (2, [.int 0, .null, .int 0]))]) [5] (by decide) rfl
  have hFc := va_free (wc := [(g0, .inr (2, [.int 0, .null, .int 0]))]) hD hS hA [5] rfl
  refine va_callv (va_runI (As := []) (rest := [.ref g0]) ⟨hx, hb, hml, hown, hts⟩ (mt_SE l dC dI cB cI g0 H.size) (cwI 0 hts (lw_meth q74) rfl rfl rfl (hts _ q18) (hts _ q72) (hts _ q73) rfl (by decide +kernel) ⟨Nat.le_of_ble_eq_true rfl, Nat.le_of_ble_eq_true rfl⟩) (sd_preS hK hV hS hPc hDc hFc) rfl rfl hl.1 rfl (lv_room (Nat.le_of_ble_eq_true rfl)) dX0_run_43 ⟨Nat.le_of_ble_eq_true rfl, Nat.le_of_ble_eq_true rfl⟩) hS (fun q _ h => hFc q h) hFc (fun _ t H locs ht hvm _ hB hz1 hk1 hS => ?_)
  obtain ⟨hP1, hD1⟩ := hB
  rw [ht] at hP1
  obtain ⟨hP, hD⟩ := va_join (wr := [(h0, .inr (0, [.ref k, .ref x, .ref y])), (k, .inl (cB, 32, .inl kf)), (x, .inl (cB, 16, .inl bf)), (y, .inl (cB, 16, .inl of)), (q, .inl (cB, 16, .inl v))]) (w1 := [(g0, .inr (2, [.int 16, .null, .int 0]))]) hP hD [5] [0, 1, 2, 3, 4] rfl rfl (by decide) (by decide) hk1 hFc hP1 hD1
  have hP : va_P (dC, dI) sd_cl [(h0, .inr (0, [.ref k, .ref x, .ref y])), (k, .inl (cB, 32, .inl kf)), (x, .inl (cB, 16, .inl bf)), (y, .inl (cB, 16, .inl of)), (q, .inl (cB, 16, .inl v)), (g0, .inr (2, [.int 16, .null, .int 0]))] H := hP
  have hD : va_D A [(h0, .inr (0, [.ref k, .ref x, .ref y])), (k, .inl (cB, 32, .inl kf)), (x, .inl (cB, 16, .inl bf)), (y, .inl (cB, 16, .inl of)), (q, .inl (cB, 16, .inl v)), (g0, .inr (2, [.int 16, .null, .int 0]))] := hD
  refine lv_astore (lv' := [(5, .ref g0), (0, .ref h0), (1, .int b), (3, .int 16), (4, .ref q)]) hx hb dX0_run_46 hl (by decide) rfl (fun ls hl => ?_)
  refine lv_aload hx hb dX0_run_48 (lv_at hl 0 rfl) ?_
  refine lv_iload_n hx hb dX0_run_50 rfl (lv_at hl 2 rfl) ?_
  refine va_new (ci := 3) (fs := [.null]) (C := RX3) (T := TX3) (N := 1) hx hb hts in_X3 tyX3 tyX3_ok hown (hts _ q86) (hts _ q87) (hts _ q19) hK hP hD hS hA rfl (fun j hj => by rcases (show j = 0 by omega) with rfl <;> rfl) (Nat.le_of_ble_eq_true rfl) (Nat.le_of_ble_eq_true rfl) dX0_run_51 (fun g1 H hP hD hS => ?_)
  have hP : va_P (dC, dI) sd_cl [(h0, .inr (0, [.ref k, .ref x, .ref y])), (k, .inl (cB, 32, .inl kf)), (x, .inl (cB, 16, .inl bf)), (y, .inl (cB, 16, .inl of)), (q, .inl (cB, 16, .inl v)), (g0, .inr (2, [.int 16, .null, .int 0])), (g1, .inr (3, [.null]))] H := hP
  have hD : va_D A [(h0, .inr (0, [.ref k, .ref x, .ref y])), (k, .inl (cB, 32, .inl kf)), (x, .inl (cB, 16, .inl bf)), (y, .inl (cB, 16, .inl of)), (q, .inl (cB, 16, .inl v)), (g0, .inr (2, [.int 16, .null, .int 0])), (g1, .inr (3, [.null]))] := hD
  refine lv_dup hx hb dX0_run_54 rfl ?_
  refine lv_aload hx hb dX0_run_55 (lv_at hl 4 rfl) ?_
  have hPc := hP.sub (ws' := [(g1, .inr (3, [.null])), (q, .inl (cB, 16, .inl v))]) [6, 4] rfl
  have hDc := hD.sub (ws' := [(g1, .inr (3, [.null])), (q, .inl (cB, 16, .inl v))]) [6, 4] (by decide) rfl
  have hFc := va_free (wc := [(g1, .inr (3, [.null])), (q, .inl (cB, 16, .inl v))]) hD hS hA [6, 4] rfl
  refine va_callv (va_runI (As := [.ref q]) (rest := [.ref g1, .int b, .ref g0]) ⟨hx, hb, hml, hown, hts⟩ (mt_KP1 l dC dI cB cI g1 q v (sd_drfit hv) H.size) (cwI 1 hts (lw_meth q90) rfl rfl rfl (hts _ q19) (hts _ q88) (hts _ q89) rfl (by decide +kernel) ⟨Nat.le_of_ble_eq_true rfl, Nat.le_of_ble_eq_true rfl⟩) (sd_preS hK hV hS hPc hDc hFc) rfl rfl hl.1 rfl (lv_room (Nat.le_of_ble_eq_true rfl)) dX0_run_57 ⟨Nat.le_of_ble_eq_true rfl, Nat.le_of_ble_eq_true rfl⟩) hS (fun q _ h => hFc q h) hFc (fun z t H locs ht hvm hz hB hz1 hk1 hS => ?_)
  obtain ⟨hP1, hD1⟩ := hB
  rw [ht] at hP1
  obtain ⟨hP, hD⟩ := va_join (wr := [(h0, .inr (0, [.ref k, .ref x, .ref y])), (k, .inl (cB, 32, .inl kf)), (x, .inl (cB, 16, .inl bf)), (y, .inl (cB, 16, .inl of)), (g0, .inr (2, [.int 16, .null, .int 0]))]) (w1 := [(g1, .inr (3, [.ref z.1])), (q, .inl (cB, 16, .inl v)), (z.1, .inl (cB, 16, .inl z.2))]) hP hD [6, 4] [0, 1, 2, 3, 5] rfl rfl (by decide) (by decide) hk1 hFc hP1 hD1
  have hP : va_P (dC, dI) sd_cl [(h0, .inr (0, [.ref k, .ref x, .ref y])), (k, .inl (cB, 32, .inl kf)), (x, .inl (cB, 16, .inl bf)), (y, .inl (cB, 16, .inl of)), (g0, .inr (2, [.int 16, .null, .int 0])), (g1, .inr (3, [.ref z.1])), (q, .inl (cB, 16, .inl v)), (z.1, .inl (cB, 16, .inl z.2))] H := hP
  have hD : va_D A [(h0, .inr (0, [.ref k, .ref x, .ref y])), (k, .inl (cB, 32, .inl kf)), (x, .inl (cB, 16, .inl bf)), (y, .inl (cB, 16, .inl of)), (g0, .inr (2, [.int 16, .null, .int 0])), (g1, .inr (3, [.ref z.1])), (q, .inl (cB, 16, .inl v)), (z.1, .inl (cB, 16, .inl z.2))] := hD
  obtain ⟨z1, z2⟩ := z
  have hP : va_P (dC, dI) sd_cl [(h0, .inr (0, [.ref k, .ref x, .ref y])), (k, .inl (cB, 32, .inl kf)), (x, .inl (cB, 16, .inl bf)), (y, .inl (cB, 16, .inl of)), (g0, .inr (2, [.int 16, .null, .int 0])), (g1, .inr (3, [.ref z1])), (q, .inl (cB, 16, .inl v)), (z1, .inl (cB, 16, .inl z2))] H := hP
  have hD : va_D A [(h0, .inr (0, [.ref k, .ref x, .ref y])), (k, .inl (cB, 32, .inl kf)), (x, .inl (cB, 16, .inl bf)), (y, .inl (cB, 16, .inl of)), (g0, .inr (2, [.int 16, .null, .int 0])), (g1, .inr (3, [.ref z1])), (q, .inl (cB, 16, .inl v)), (z1, .inl (cB, 16, .inl z2))] := hD
  have hz : ∀ j, j < 16 → z2 j = v j := hz
  have hPc := hP.sub (ws' := [(g0, .inr (2, [.int 16, .null, .int 0])), (g1, .inr (3, [.ref z1])), (z1, .inl (cB, 16, .inl z2))]) [4, 5, 7] rfl
  have hDc := hD.sub (ws' := [(g0, .inr (2, [.int 16, .null, .int 0])), (g1, .inr (3, [.ref z1])), (z1, .inl (cB, 16, .inl z2))]) [4, 5, 7] (by decide) rfl
  have hFc := va_free (wc := [(g0, .inr (2, [.int 16, .null, .int 0])), (g1, .inr (3, [.ref z1])), (z1, .inl (cB, 16, .inl z2))]) hD hS hA [4, 5, 7] rfl
  refine va_callFv (va_runF (hK.1 2 _ rfl).2 (As := [.int b, .ref g1]) (rest := []) ⟨hx, hb, hml, hown, hts⟩ (mt_init l dC dI cB cI g0 g1 z1 b hbn hbf z2 H.size) (va_cwF 2 hts (sd_F q106 q110 q112 q18 q114) rfl rfl rfl hV.2.2.2.1 (by decide +kernel) ⟨Nat.le_of_ble_eq_true rfl, Nat.le_of_ble_eq_true rfl⟩) (sd_preV (va_recv hK hP (ci := 2) (q0 := 4) rfl rfl) hK hV hS hPc hDc hFc) rfl rfl hl.1 rfl (lv_room (Nat.le_of_ble_eq_true rfl)) dX0_run_60 ⟨Nat.le_of_ble_eq_true rfl, Nat.le_of_ble_eq_true rfl⟩) hS (fun q _ h => hFc q h) hFc (fun y1 t H locs ht hvm hy1 hB hz1 hk1 hS => ?_)
  obtain ⟨hP1, hD1⟩ := hB
  rw [ht] at hP1
  obtain ⟨hP, hD⟩ := va_join (wr := [(h0, .inr (0, [.ref k, .ref x, .ref y])), (k, .inl (cB, 32, .inl kf)), (x, .inl (cB, 16, .inl bf)), (y, .inl (cB, 16, .inl of)), (q, .inl (cB, 16, .inl v))]) (w1 := [(g0, .inr (2, [.int 16, .ref y1.1, .int b])), (g1, .inr (3, [.ref z1])), (z1, .inl (cB, 16, .inl z2)), (y1.1, .inl (cI, 32, .inl y1.2))]) hP hD [4, 5, 7] [0, 1, 2, 3, 6] rfl rfl (by decide) (by decide) hk1 hFc hP1 hD1
  have hP : va_P (dC, dI) sd_cl [(h0, .inr (0, [.ref k, .ref x, .ref y])), (k, .inl (cB, 32, .inl kf)), (x, .inl (cB, 16, .inl bf)), (y, .inl (cB, 16, .inl of)), (q, .inl (cB, 16, .inl v)), (g0, .inr (2, [.int 16, .ref y1.1, .int b])), (g1, .inr (3, [.ref z1])), (z1, .inl (cB, 16, .inl z2)), (y1.1, .inl (cI, 32, .inl y1.2))] H := hP
  have hD : va_D A [(h0, .inr (0, [.ref k, .ref x, .ref y])), (k, .inl (cB, 32, .inl kf)), (x, .inl (cB, 16, .inl bf)), (y, .inl (cB, 16, .inl of)), (q, .inl (cB, 16, .inl v)), (g0, .inr (2, [.int 16, .ref y1.1, .int b])), (g1, .inr (3, [.ref z1])), (z1, .inl (cB, 16, .inl z2)), (y1.1, .inl (cI, 32, .inl y1.2))] := hD
  obtain ⟨kk, K⟩ := y1
  have hP : va_P (dC, dI) sd_cl [(h0, .inr (0, [.ref k, .ref x, .ref y])), (k, .inl (cB, 32, .inl kf)), (x, .inl (cB, 16, .inl bf)), (y, .inl (cB, 16, .inl of)), (q, .inl (cB, 16, .inl v)), (g0, .inr (2, [.int 16, .ref kk, .int b])), (g1, .inr (3, [.ref z1])), (z1, .inl (cB, 16, .inl z2)), (kk, .inl (cI, 32, .inl K))] H := hP
  have hD : va_D A [(h0, .inr (0, [.ref k, .ref x, .ref y])), (k, .inl (cB, 32, .inl kf)), (x, .inl (cB, 16, .inl bf)), (y, .inl (cB, 16, .inl of)), (q, .inl (cB, 16, .inl v)), (g0, .inr (2, [.int 16, .ref kk, .int b])), (g1, .inr (3, [.ref z1])), (z1, .inl (cB, 16, .inl z2)), (kk, .inl (cI, 32, .inl K))] := hD
  have hy1 : ∀ j, j < 32 → K j = sd_rk (sd_w4 (fun j => z2 j &&& 255) 0) (sd_w4 (fun j => z2 j &&& 255) 4) (sd_w4 (fun j => z2 j &&& 255) 8) (sd_w4 (fun j => z2 j &&& 255) 12) j := hy1
  refine lv_aload hx hb dX0_run_65 (lv_at hl 0 rfl) ?_
  refine lv_aload_n hx hb dX0_run_67 rfl (lv_at hl 1 rfl) ?_
  refine va_get (D := (dC, dI)) (ci := 0) (v := .ref x) (C := RX0) (T := TX0) (N := 3) hx hb hts in_X0 hown hK hP 0 rfl rfl 1 (by decide) (hts _ q38) (fun _ h9 => h9) rfl dX0_run_68 ?_
  refine lv_iconst (v := 0) hx hb dX0_run_71 (by decide) ?_
  refine lv_aload_n hx hb dX0_run_72 rfl (lv_at hl 1 rfl) ?_
  refine va_get (D := (dC, dI)) (ci := 0) (v := .ref y) (C := RX0) (T := TX0) (N := 3) hx hb hts in_X0 hown hK hP 0 rfl rfl 2 (by decide) (hts _ q39) (fun _ h9 => h9) rfl dX0_run_73 ?_
  refine lv_iconst (v := 0) hx hb dX0_run_76 (by decide) ?_
  have hPc := hP.sub (ws' := [(g0, .inr (2, [.int 16, .ref kk, .int b])), (kk, .inl (cI, 32, .inl K)), (x, .inl (cB, 16, .inl bf)), (y, .inl (cB, 16, .inl of))]) [5, 8, 2, 3] rfl
  have hDc := hD.sub (ws' := [(g0, .inr (2, [.int 16, .ref kk, .int b])), (kk, .inl (cI, 32, .inl K)), (x, .inl (cB, 16, .inl bf)), (y, .inl (cB, 16, .inl of))]) [5, 8, 2, 3] (by decide) rfl
  have hFc := va_free (wc := [(g0, .inr (2, [.int 16, .ref kk, .int b])), (kk, .inl (cI, 32, .inl K)), (x, .inl (cB, 16, .inl bf)), (y, .inl (cB, 16, .inl of))]) hD hS hA [5, 8, 2, 3] rfl
  refine va_callFi (va_runF (hK.1 2 _ rfl).2 (As := [.ref x, .int 0, .ref y, .int 0]) (rest := []) ⟨hx, hb, hml, hown, hts⟩ (mt_pB l dC dI cB cI g0 kk x y b K bf of H.size) (va_cwF 4 hts (sd_F q227 q230 q232 q18 q234) rfl rfl rfl hV.2.2.2.2 (by decide +kernel) ⟨Nat.le_of_ble_eq_true rfl, Nat.le_of_ble_eq_true rfl⟩) (sd_preV (va_recv hK hP (ci := 2) (q0 := 5) rfl rfl) hK hV hS hPc hDc hFc) rfl rfl hl.1 rfl (lv_room (Nat.le_of_ble_eq_true rfl)) dX0_run_77 ⟨Nat.le_of_ble_eq_true rfl, Nat.le_of_ble_eq_true rfl⟩) hS (fun q _ h => hFc q h) hFc (fun rr u t H locs ht hvm hu hB hz1 hk1 hS => ?_)
  obtain ⟨hP1, hD1⟩ := hB
  rw [ht] at hP1
  obtain ⟨hP, hD⟩ := va_join (wr := [(h0, .inr (0, [.ref k, .ref x, .ref y])), (k, .inl (cB, 32, .inl kf)), (q, .inl (cB, 16, .inl v)), (g1, .inr (3, [.ref z1])), (z1, .inl (cB, 16, .inl z2))]) (w1 := [(g0, .inr (2, [.int 16, .ref kk, .int b])), (kk, .inl (cI, 32, .inl K)), (x, .inl (cB, 16, .inl bf)), (y, .inl (cB, 16, .inl u))]) hP hD [5, 8, 2, 3] [0, 1, 4, 6, 7] rfl rfl (by decide) (by decide) hk1 hFc hP1 hD1
  have hP : va_P (dC, dI) sd_cl [(h0, .inr (0, [.ref k, .ref x, .ref y])), (k, .inl (cB, 32, .inl kf)), (q, .inl (cB, 16, .inl v)), (g1, .inr (3, [.ref z1])), (z1, .inl (cB, 16, .inl z2)), (g0, .inr (2, [.int 16, .ref kk, .int b])), (kk, .inl (cI, 32, .inl K)), (x, .inl (cB, 16, .inl bf)), (y, .inl (cB, 16, .inl u))] H := hP
  have hD : va_D A [(h0, .inr (0, [.ref k, .ref x, .ref y])), (k, .inl (cB, 32, .inl kf)), (q, .inl (cB, 16, .inl v)), (g1, .inr (3, [.ref z1])), (z1, .inl (cB, 16, .inl z2)), (g0, .inr (2, [.int 16, .ref kk, .int b])), (kk, .inl (cI, 32, .inl K)), (x, .inl (cB, 16, .inl bf)), (y, .inl (cB, 16, .inl u))] := hD
  refine lv_pop hx hb dX0_run_82 rfl ?_
  have hP := hP.sub (ws' := [(h0, .inr (0, [.ref k, .ref x, .ref y])), (k, .inl (cB, 32, .inl kf)), (x, .inl (cB, 16, .inl bf)), (y, .inl (cB, 16, .inl u))]) [0, 1, 7, 8] rfl
  have hD := hD.sub (ws' := [(h0, .inr (0, [.ref k, .ref x, .ref y])), (k, .inl (cB, 32, .inl kf)), (x, .inl (cB, 16, .inl bf)), (y, .inl (cB, 16, .inl u))]) [0, 1, 7, 8] (by decide) rfl
  refine W.widen (k := 5) (n := 68) (by first | omega | (dsimp only; omega)) (by first | omega | (dsimp only; omega)) ?_
  exact W.vret hx hb hr (fun t ht hW => ⟨⟨u, rfl, sd_drend hv hz hy1 hu, by rw [ht]; exact hP, hD⟩, hS.F ht⟩) hS.2.2 dX0_run_83
set_option maxHeartbeats 4000000 in
set_option maxRecDepth 100000 in
/-- lock(kind) -/
theorem mt_dlock (l : Launch) (dC : Nat → ClassId) (dI : Nat → Nat → Nat) (cB cI : ClassId) (h0 k x y : Nat) (i : Int32) (kf bf of : Nat → Int32) (sz : Nat) : Met l yX0_lock (ws_ yX0_lock cX0_lock 2 none) ({ frames := 6, cells := 5, slots := 68, locals := 153 } : Room) (va_Pc [.ref h0, .int i] (sd_pre (dC, dI) cB cI [(h0, .inr (0, [.ref k, .ref x, .ref y])), (k, .inl (cB, 32, .inl kf)), (x, .inl (cB, 16, .inl bf)), (y, .inl (cB, 16, .inl of))] sz)) (va_Qv (fun u : Nat → Int32 => ∀ j, j < 16 → u j &&& 255 = sd_ans 1 (fun j => kf j &&& 255) (fun j => bf j &&& 255) j) (fun u t => va_P (dC, dI) sd_cl [(h0, .inr (0, [.ref k, .ref x, .ref y])), (k, .inl (cB, 32, .inl kf)), (x, .inl (cB, 16, .inl bf)), (y, .inl (cB, 16, .inl u))] t.heap ∧ va_D (va_A [(h0, .inr (0, [.ref k, .ref x, .ref y])), (k, .inl (cB, 32, .inl kf)), (x, .inl (cB, 16, .inl bf)), (y, .inl (cB, 16, .inl of))] sz) [(h0, .inr (0, [.ref k, .ref x, .ref y])), (k, .inl (cB, 32, .inl kf)), (x, .inl (cB, 16, .inl bf)), (y, .inl (cB, 16, .inl u))]) (va_A [(h0, .inr (0, [.ref k, .ref x, .ref y])), (k, .inl (cB, 32, .inl kf)), (x, .inl (cB, 16, .inl bf)), (y, .inl (cB, 16, .inl of))] sz)) 5 68 (va_A [(h0, .inr (0, [.ref k, .ref x, .ref y])), (k, .inl (cB, 32, .inl kf)), (x, .inl (cB, 16, .inl bf)), (y, .inl (cB, 16, .inl of))] sz) := by
  refine sd_metW (Qc := fun A => va_Qv (fun u : Nat → Int32 => ∀ j, j < 16 → u j &&& 255 = sd_ans 1 (fun j => kf j &&& 255) (fun j => bf j &&& 255) j) (fun u t => va_P (dC, dI) sd_cl [(h0, .inr (0, [.ref k, .ref x, .ref y])), (k, .inl (cB, 32, .inl kf)), (x, .inl (cB, 16, .inl bf)), (y, .inl (cB, 16, .inl u))] t.heap ∧ va_D A [(h0, .inr (0, [.ref k, .ref x, .ref y])), (k, .inl (cB, 32, .inl kf)), (x, .inl (cB, 16, .inl bf)), (y, .inl (cB, 16, .inl u))]) A) (by decide) (Nat.le_of_ble_eq_true rfl) ?_
  intro p e s m below meth c ls A hx hb hr hml hts hown hlocks hname hP hK hD hV hA hS hl
  have hown : s.vm.findClass RX0 = some m.cls := hown
  have hl : lv_has ls 2 [(0, .ref h0), (1, .int i)] := hl
  refine lv_aload_n hx hb dX0_lock_0 rfl (lv_at hl 0 rfl) ?_
  refine lv_iconst (v := 1) hx hb dX0_lock_1 (by decide) ?_
  refine lv_iload_n hx hb dX0_lock_2 rfl (lv_at hl 1 rfl) ?_
  have hPc := hP.sub (ws' := [(h0, .inr (0, [.ref k, .ref x, .ref y])), (k, .inl (cB, 32, .inl kf)), (x, .inl (cB, 16, .inl bf)), (y, .inl (cB, 16, .inl of))]) [0, 1, 2, 3] rfl
  have hDc := hD.sub (ws' := [(h0, .inr (0, [.ref k, .ref x, .ref y])), (k, .inl (cB, 32, .inl kf)), (x, .inl (cB, 16, .inl bf)), (y, .inl (cB, 16, .inl of))]) [0, 1, 2, 3] (by decide) rfl
  have hFc := va_free (wc := [(h0, .inr (0, [.ref k, .ref x, .ref y])), (k, .inl (cB, 32, .inl kf)), (x, .inl (cB, 16, .inl bf)), (y, .inl (cB, 16, .inl of))]) hD hS hA [0, 1, 2, 3] rfl
  refine va_callv (va_runV (As := [.int 1, .int i]) (rest := []) ⟨hx, hb, hml, hown, hts⟩ (mt_drun l dC dI cB cI h0 k x y 1 i (by decide) (by decide) kf bf of s.heap.size) (cwV 2 hts (lw_V q63 q65 qs0 q16 q66) rfl rfl rfl (by decide +kernel) ⟨Nat.le_of_ble_eq_true rfl, Nat.le_of_ble_eq_true rfl⟩) (sd_preV (va_recv hK hP (ci := 0) (q0 := 0) rfl rfl) hK hV hS hPc hDc hFc) rfl rfl hl.1 rfl (lv_room (Nat.le_of_ble_eq_true rfl)) dX0_lock_3 ⟨Nat.le_of_ble_eq_true rfl, Nat.le_of_ble_eq_true rfl⟩) hS (fun q _ h => hFc q h) hFc (fun u t H locs ht hvm hw hB hz1 hk1 hS => ?_)
  obtain ⟨hP1, hD1⟩ := hB
  rw [ht] at hP1
  obtain ⟨hP, hD⟩ := va_join (wr := []) (w1 := [(h0, .inr (0, [.ref k, .ref x, .ref y])), (k, .inl (cB, 32, .inl kf)), (x, .inl (cB, 16, .inl bf)), (y, .inl (cB, 16, .inl u))]) hP hD [0, 1, 2, 3] [] rfl rfl (by decide) (by decide) hk1 hFc hP1 hD1
  have hP : va_P (dC, dI) sd_cl [(h0, .inr (0, [.ref k, .ref x, .ref y])), (k, .inl (cB, 32, .inl kf)), (x, .inl (cB, 16, .inl bf)), (y, .inl (cB, 16, .inl u))] H := hP
  have hD : va_D A [(h0, .inr (0, [.ref k, .ref x, .ref y])), (k, .inl (cB, 32, .inl kf)), (x, .inl (cB, 16, .inl bf)), (y, .inl (cB, 16, .inl u))] := hD
  refine W.widen (k := 5) (n := 68) (by first | omega | (dsimp only; omega)) (by first | omega | (dsimp only; omega)) ?_
  exact W.vret hx hb hr (fun t ht hW => ⟨⟨u, rfl, hw, by rw [ht]; exact hP, hD⟩, hS.F ht⟩) hS.2.2 dX0_lock_6
set_option maxHeartbeats 4000000 in
set_option maxRecDepth 100000 in
/-- open(kind) -/
theorem mt_dopen (l : Launch) (dC : Nat → ClassId) (dI : Nat → Nat → Nat) (cB cI : ClassId) (h0 k x y : Nat) (i : Int32) (kf bf of : Nat → Int32) (sz : Nat) : Met l yX0_open (ws_ yX0_open cX0_open 2 none) ({ frames := 6, cells := 5, slots := 68, locals := 153 } : Room) (va_Pc [.ref h0, .int i] (sd_pre (dC, dI) cB cI [(h0, .inr (0, [.ref k, .ref x, .ref y])), (k, .inl (cB, 32, .inl kf)), (x, .inl (cB, 16, .inl bf)), (y, .inl (cB, 16, .inl of))] sz)) (va_Qv (fun u : Nat → Int32 => ∀ j, j < 16 → u j &&& 255 = sd_ans 0 (fun j => kf j &&& 255) (fun j => bf j &&& 255) j) (fun u t => va_P (dC, dI) sd_cl [(h0, .inr (0, [.ref k, .ref x, .ref y])), (k, .inl (cB, 32, .inl kf)), (x, .inl (cB, 16, .inl bf)), (y, .inl (cB, 16, .inl u))] t.heap ∧ va_D (va_A [(h0, .inr (0, [.ref k, .ref x, .ref y])), (k, .inl (cB, 32, .inl kf)), (x, .inl (cB, 16, .inl bf)), (y, .inl (cB, 16, .inl of))] sz) [(h0, .inr (0, [.ref k, .ref x, .ref y])), (k, .inl (cB, 32, .inl kf)), (x, .inl (cB, 16, .inl bf)), (y, .inl (cB, 16, .inl u))]) (va_A [(h0, .inr (0, [.ref k, .ref x, .ref y])), (k, .inl (cB, 32, .inl kf)), (x, .inl (cB, 16, .inl bf)), (y, .inl (cB, 16, .inl of))] sz)) 5 68 (va_A [(h0, .inr (0, [.ref k, .ref x, .ref y])), (k, .inl (cB, 32, .inl kf)), (x, .inl (cB, 16, .inl bf)), (y, .inl (cB, 16, .inl of))] sz) := by
  refine sd_metW (Qc := fun A => va_Qv (fun u : Nat → Int32 => ∀ j, j < 16 → u j &&& 255 = sd_ans 0 (fun j => kf j &&& 255) (fun j => bf j &&& 255) j) (fun u t => va_P (dC, dI) sd_cl [(h0, .inr (0, [.ref k, .ref x, .ref y])), (k, .inl (cB, 32, .inl kf)), (x, .inl (cB, 16, .inl bf)), (y, .inl (cB, 16, .inl u))] t.heap ∧ va_D A [(h0, .inr (0, [.ref k, .ref x, .ref y])), (k, .inl (cB, 32, .inl kf)), (x, .inl (cB, 16, .inl bf)), (y, .inl (cB, 16, .inl u))]) A) (by decide) (Nat.le_of_ble_eq_true rfl) ?_
  intro p e s m below meth c ls A hx hb hr hml hts hown hlocks hname hP hK hD hV hA hS hl
  have hown : s.vm.findClass RX0 = some m.cls := hown
  have hl : lv_has ls 2 [(0, .ref h0), (1, .int i)] := hl
  refine lv_aload_n hx hb dX0_open_0 rfl (lv_at hl 0 rfl) ?_
  refine lv_iconst (v := 0) hx hb dX0_open_1 (by decide) ?_
  refine lv_iload_n hx hb dX0_open_2 rfl (lv_at hl 1 rfl) ?_
  have hPc := hP.sub (ws' := [(h0, .inr (0, [.ref k, .ref x, .ref y])), (k, .inl (cB, 32, .inl kf)), (x, .inl (cB, 16, .inl bf)), (y, .inl (cB, 16, .inl of))]) [0, 1, 2, 3] rfl
  have hDc := hD.sub (ws' := [(h0, .inr (0, [.ref k, .ref x, .ref y])), (k, .inl (cB, 32, .inl kf)), (x, .inl (cB, 16, .inl bf)), (y, .inl (cB, 16, .inl of))]) [0, 1, 2, 3] (by decide) rfl
  have hFc := va_free (wc := [(h0, .inr (0, [.ref k, .ref x, .ref y])), (k, .inl (cB, 32, .inl kf)), (x, .inl (cB, 16, .inl bf)), (y, .inl (cB, 16, .inl of))]) hD hS hA [0, 1, 2, 3] rfl
  refine va_callv (va_runV (As := [.int 0, .int i]) (rest := []) ⟨hx, hb, hml, hown, hts⟩ (mt_drun l dC dI cB cI h0 k x y 0 i (by decide) (by decide) kf bf of s.heap.size) (cwV 2 hts (lw_V q63 q65 qs0 q16 q66) rfl rfl rfl (by decide +kernel) ⟨Nat.le_of_ble_eq_true rfl, Nat.le_of_ble_eq_true rfl⟩) (sd_preV (va_recv hK hP (ci := 0) (q0 := 0) rfl rfl) hK hV hS hPc hDc hFc) rfl rfl hl.1 rfl (lv_room (Nat.le_of_ble_eq_true rfl)) dX0_open_3 ⟨Nat.le_of_ble_eq_true rfl, Nat.le_of_ble_eq_true rfl⟩) hS (fun q _ h => hFc q h) hFc (fun u t H locs ht hvm hw hB hz1 hk1 hS => ?_)
  obtain ⟨hP1, hD1⟩ := hB
  rw [ht] at hP1
  obtain ⟨hP, hD⟩ := va_join (wr := []) (w1 := [(h0, .inr (0, [.ref k, .ref x, .ref y])), (k, .inl (cB, 32, .inl kf)), (x, .inl (cB, 16, .inl bf)), (y, .inl (cB, 16, .inl u))]) hP hD [0, 1, 2, 3] [] rfl rfl (by decide) (by decide) hk1 hFc hP1 hD1
  have hP : va_P (dC, dI) sd_cl [(h0, .inr (0, [.ref k, .ref x, .ref y])), (k, .inl (cB, 32, .inl kf)), (x, .inl (cB, 16, .inl bf)), (y, .inl (cB, 16, .inl u))] H := hP
  have hD : va_D A [(h0, .inr (0, [.ref k, .ref x, .ref y])), (k, .inl (cB, 32, .inl kf)), (x, .inl (cB, 16, .inl bf)), (y, .inl (cB, 16, .inl u))] := hD
  refine W.widen (k := 5) (n := 68) (by first | omega | (dsimp only; omega)) (by first | omega | (dsimp only; omega)) ?_
  exact W.vret hx hb hr (fun t ht hW => ⟨⟨u, rfl, hw, by rw [ht]; exact hP, hD⟩, hS.F ht⟩) hS.2.2 dX0_open_6
end
section
/-! ===== what the Statement gives of the start ===== -/
def sd_L : List Cond := flatC (Jvm.Cond.and given_1 narrow_1)
theorem sd_tab0 {args : Array Value} {s : State} {C n : String} {N p : Nat} {f : Nat → Int32} {A : Nat → Prop} (hL : ∀ c ∈ sd_L, c.before args s = true) (hN : N < 2 ^ 31) (ha : Cond.arrayOf (.static C n "[I") .int ∈ sd_L) (hl : Cond.eq (.length (.static C n "[I")) (.int (Int32.ofNat N)) ∈ sd_L)
    (he : (List.range N).map (fun j => Cond.eq (.elem (.static C n "[I") (.int (Int32.ofNat j))) (.int (f j))) = (sd_L.drop p).take N) (h1 : (Cond.laysStatic C n "[I").before args s = true) (h2 : (Cond.initialized C).before args s = true) (hA : ∀ a : Nat, a < s.heap.size → ¬ A a) : sd_tab C n N f A s := by
  obtain ⟨t, ht, hT⟩ := va_Tof (f := fun j => .int (f j)) (A := A) hN (hL _ ha) (va_eqt (hL _ hl)) (fun j hj => va_eqt (hL _ (va_run he j hj))) hA
  exact ⟨t, va_Zref h1 h2 ht hA, hT⟩
set_option maxRecDepth 100000 in
theorem te_SS0 : (List.range 256).map (fun j => Cond.eq (.elem (.static "SEEDEngine" "SS0" "[I") (.int (Int32.ofNat j))) (.int (sd_s0 j))) = (sd_L.drop 31).take 256 := by decide +kernel
set_option maxRecDepth 100000 in
theorem ta_SS0 : Cond.arrayOf (.static "SEEDEngine" "SS0" "[I") .int ∈ sd_L := List.mem_of_getElem? (i := 28) (by decide +kernel)
set_option maxRecDepth 100000 in
theorem tl_SS0 : Cond.eq (.length (.static "SEEDEngine" "SS0" "[I")) (.int (Int32.ofNat 256)) ∈ sd_L := List.mem_of_getElem? (i := 30) (by decide +kernel)
set_option maxRecDepth 100000 in
theorem te_SS1 : (List.range 256).map (fun j => Cond.eq (.elem (.static "SEEDEngine" "SS1" "[I") (.int (Int32.ofNat j))) (.int (sd_s1 j))) = (sd_L.drop 291).take 256 := by decide +kernel
set_option maxRecDepth 100000 in
theorem ta_SS1 : Cond.arrayOf (.static "SEEDEngine" "SS1" "[I") .int ∈ sd_L := List.mem_of_getElem? (i := 288) (by decide +kernel)
set_option maxRecDepth 100000 in
theorem tl_SS1 : Cond.eq (.length (.static "SEEDEngine" "SS1" "[I")) (.int (Int32.ofNat 256)) ∈ sd_L := List.mem_of_getElem? (i := 290) (by decide +kernel)
set_option maxRecDepth 100000 in
theorem te_SS2 : (List.range 256).map (fun j => Cond.eq (.elem (.static "SEEDEngine" "SS2" "[I") (.int (Int32.ofNat j))) (.int (sd_s2 j))) = (sd_L.drop 551).take 256 := by decide +kernel
set_option maxRecDepth 100000 in
theorem ta_SS2 : Cond.arrayOf (.static "SEEDEngine" "SS2" "[I") .int ∈ sd_L := List.mem_of_getElem? (i := 548) (by decide +kernel)
set_option maxRecDepth 100000 in
theorem tl_SS2 : Cond.eq (.length (.static "SEEDEngine" "SS2" "[I")) (.int (Int32.ofNat 256)) ∈ sd_L := List.mem_of_getElem? (i := 550) (by decide +kernel)
set_option maxRecDepth 100000 in
theorem te_SS3 : (List.range 256).map (fun j => Cond.eq (.elem (.static "SEEDEngine" "SS3" "[I") (.int (Int32.ofNat j))) (.int (sd_s3 j))) = (sd_L.drop 811).take 256 := by decide +kernel
set_option maxRecDepth 100000 in
theorem ta_SS3 : Cond.arrayOf (.static "SEEDEngine" "SS3" "[I") .int ∈ sd_L := List.mem_of_getElem? (i := 808) (by decide +kernel)
set_option maxRecDepth 100000 in
theorem tl_SS3 : Cond.eq (.length (.static "SEEDEngine" "SS3" "[I")) (.int (Int32.ofNat 256)) ∈ sd_L := List.mem_of_getElem? (i := 810) (by decide +kernel)
set_option maxRecDepth 100000 in
theorem te_KC : (List.range 16).map (fun j => Cond.eq (.elem (.static "SEEDEngine" "KC" "[I") (.int (Int32.ofNat j))) (.int (sd_kc j))) = (sd_L.drop 11).take 16 := by decide +kernel
set_option maxRecDepth 100000 in
theorem ta_KC : Cond.arrayOf (.static "SEEDEngine" "KC" "[I") .int ∈ sd_L := List.mem_of_getElem? (i := 8) (by decide +kernel)
set_option maxRecDepth 100000 in
theorem tl_KC : Cond.eq (.length (.static "SEEDEngine" "KC" "[I")) (.int (Int32.ofNat 16)) ∈ sd_L := List.mem_of_getElem? (i := 10) (by decide +kernel)
set_option maxRecDepth 100000 in
theorem te_FIRST : (List.range 256).map (fun j => Cond.eq (.elem (.static "SeedDeskModel" "FIRST" "[I") (.int (Int32.ofNat j))) (.int (sd_first j))) = (sd_L.drop 1071).take 256 := by decide +kernel
set_option maxRecDepth 100000 in
theorem ta_FIRST : Cond.arrayOf (.static "SeedDeskModel" "FIRST" "[I") .int ∈ sd_L := List.mem_of_getElem? (i := 1068) (by decide +kernel)
set_option maxRecDepth 100000 in
theorem tl_FIRST : Cond.eq (.length (.static "SeedDeskModel" "FIRST" "[I")) (.int (Int32.ofNat 256)) ∈ sd_L := List.mem_of_getElem? (i := 1070) (by decide +kernel)
set_option maxRecDepth 100000 in
theorem te_SECOND : (List.range 256).map (fun j => Cond.eq (.elem (.static "SeedDeskModel" "SECOND" "[I") (.int (Int32.ofNat j))) (.int (sd_second j))) = (sd_L.drop 1331).take 256 := by decide +kernel
set_option maxRecDepth 100000 in
theorem ta_SECOND : Cond.arrayOf (.static "SeedDeskModel" "SECOND" "[I") .int ∈ sd_L := List.mem_of_getElem? (i := 1328) (by decide +kernel)
set_option maxRecDepth 100000 in
theorem tl_SECOND : Cond.eq (.length (.static "SeedDeskModel" "SECOND" "[I")) (.int (Int32.ofNat 256)) ∈ sd_L := List.mem_of_getElem? (i := 1330) (by decide +kernel)
set_option maxRecDepth 100000 in
theorem te_MASKS : (List.range 4).map (fun j => Cond.eq (.elem (.static "SeedDeskModel" "MASKS" "[I") (.int (Int32.ofNat j))) (.int (sd_masks j))) = (sd_L.drop 1591).take 4 := by decide +kernel
set_option maxRecDepth 100000 in
theorem ta_MASKS : Cond.arrayOf (.static "SeedDeskModel" "MASKS" "[I") .int ∈ sd_L := List.mem_of_getElem? (i := 1588) (by decide +kernel)
set_option maxRecDepth 100000 in
theorem tl_MASKS : Cond.eq (.length (.static "SeedDeskModel" "MASKS" "[I")) (.int (Int32.ofNat 4)) ∈ sd_L := List.mem_of_getElem? (i := 1590) (by decide +kernel)
theorem sd_V0 {args : Array Value} {s : State} {A : Nat → Prop} (hL : ∀ c ∈ sd_L, c.before args s = true) (hts : ∀ w ∈ lw_tbl, w.before args s = true) (hA : ∀ a : Nat, a < s.heap.size → ¬ A a) : sd_V A s :=
  ⟨⟨sd_tab0 hL (by decide) ta_SS0 tl_SS0 te_SS0 (hts _ q211) (hts _ (lw_all_tbl q18)) hA, sd_tab0 hL (by decide) ta_SS1 tl_SS1 te_SS1 (hts _ q213) (hts _ (lw_all_tbl q18)) hA, sd_tab0 hL (by decide) ta_SS2 tl_SS2 te_SS2 (hts _ q215) (hts _ (lw_all_tbl q18)) hA, sd_tab0 hL (by decide) ta_SS3 tl_SS3 te_SS3 (hts _ q217) (hts _ (lw_all_tbl q18)) hA⟩, sd_tab0 hL (by decide) ta_KC tl_KC te_KC (hts _ q205) (hts _ (lw_all_tbl q18)) hA, ⟨sd_tab0 hL (by decide) ta_FIRST tl_FIRST te_FIRST (hts _ q365) (hts _ (lw_all_tbl q17)) hA, sd_tab0 hL (by decide) ta_SECOND tl_SECOND te_SECOND (hts _ q367) (hts _ (lw_all_tbl q17)) hA, sd_tab0 hL (by decide) ta_MASKS tl_MASKS te_MASKS (hts _ q369) (hts _ (lw_all_tbl q17)) hA⟩, va_Fw.of (hts _ q108) (hts _ q107) (hts _ q113) (hts _ q111) (hts _ q109), va_Fw.of (hts _ q229) (hts _ q228) (hts _ q233) (hts _ q231) (hts _ q109)⟩
theorem sd_arr0 {args : Array Value} {s : State} {ty : FieldType} (h : (Cond.arrayClass ty).before args s = true) (hp : ∀ C, ty ≠ .object C) : ∃ cA : ClassId, ArrOfT s cA ty ∧ va_RA s cA ty := by
  obtain ⟨cA, kA, comp, h1, h2, h3⟩ := Cond.arrayClass_spec h
  refine ⟨cA, fun n z => ⟨fun k h => (by cases h), kA, h2, comp, h3⟩, ?_⟩
  cases ty with
  | object C => exact absurd rfl (hp C)
  | _ => exact h1
theorem sd_K0 {args : Array Value} {s : State} (hts : ∀ w ∈ lw_tbl, w.before args s = true) : ∃ (dC : Nat → ClassId) (dI : Nat → Nat → Nat) (cB cI : ClassId), va_K (dC, dI) sd_cl (sd_ty cB cI) s := by
  obtain ⟨c0, i0, h0⟩ := u_known (C := RX0) (T := TX0) (N := 3) (n := 3) hts (fun w h => lw_all_tbl (in_X0 w h)) (hts _ (lw_all_tbl q30))
  obtain ⟨c1, i1, h1⟩ := u_known (C := RX1) (T := TX1) (N := 3) (n := 3) hts (fun w h => lw_all_tbl (in_X1 w h)) (hts _ (lw_all_tbl q319))
  obtain ⟨c2, i2, h2⟩ := u_known (C := RX2) (T := TX2) (N := 3) (n := 3) hts (fun w h => lw_all_tbl (in_X2 w h)) (hts _ (lw_all_tbl q71))
  obtain ⟨c3, i3, h3⟩ := u_known (C := RX3) (T := TX3) (N := 1) (n := 1) hts (fun w h => lw_all_tbl (in_X3 w h)) (hts _ (lw_all_tbl q87))
  obtain ⟨cB, hB⟩ := sd_arr0 (ty := .byte) (hts _ (lw_all_tbl q47)) (fun C h => by cases h)
  obtain ⟨cI, hI⟩ := sd_arr0 (ty := .int) (hts _ (lw_all_tbl q251)) (fun C h => by cases h)
  refine ⟨fun k => if k = 0 then c0 else if k = 1 then c1 else if k = 2 then c2 else c3, fun k => if k = 0 then i0 else if k = 1 then i1 else if k = 2 then i2 else i3, cB, cI, ?_, ?_⟩
  · intro k q hq
    match k, hq with
    | 0, hq => cases hq; exact h0
    | 1, hq => cases hq; exact h1
    | 2, hq => cases hq; exact h2
    | 3, hq => cases hq; exact h3
    | k + 4, hq => simp [sd_cl] at hq
  · intro k q hq
    match k, hq with
    | 0, hq => cases hq; exact hB
    | 1, hq => cases hq; exact hI
    | k + 2, hq => simp [sd_ty] at hq
end
section
/-! THE CLAIM OUT OF ONE WALK OF THE LAW'S BODY. Your part is whole_start (and what it stands on); all else here is the same for every law, but numbers. -/
def R_law : String := "SeedDeskLaw"
def lw_P (b : Addr) (xs : List Int32) (args : Array Value) (s : State) : Prop := args = #[.ref b] ∧ s.IntsAt b xs ∧ xs.length ≤ 288 ∧ (Jvm.Cond.and given_1 narrow_1).before args s = true
def lw_Q (_ : Array Value) (s : State) (o : Outcome) (t : State) : Prop := o = .returned (some (.int 1)) ∧ Framed s o t [] 600096 7301386
def lw_Z (below : List Frame) (a : Array Value) (s : State) : State → Prop := fun t => ∃ o, t.status = .running ∧ Ended t below o ∧ lw_Q a s o t
/-- the law's own end, with 1 on the stack, nothing written that was there before, its room as the claim has it -/
theorem lw_ret {p : Program} {l : Launch} {e : Env} {s : State} {m : MethodId} {below : List Frame} {meth : Method} {c : Code} {b : Nat} (hx : p.tables.exec = Jvm.exec) (hb : c.code = code) (hr : meth.sig.returnType = ret) (hlocks : meth.locks = false) {pc : Nat} {H : Heap} {ls : Array Slot} (hdg : decode code pc = .ok (.ireturn, 1)) : W p l e room_1 s m #[Value.ref b] below meth c H [] 600096 7301386 (lw_Z below #[Value.ref b] s) (F0 m pc ls [.int 1]) := by
  intro T hT X
  obtain ⟨fs, hret, hrun, hended, hW, hframe⟩ := X.leave (v := some (.int 1)) (hlocks := hlocks) (fun h => by rw [hr] at h; cases h)
  have hmeth' : T.vm.method? m = some meth := X.method'
  refine ⟨T.setFrames fs, ?_, .returned (some (.int 1)), hrun, hended, rfl, ⟨_, rfl⟩, hW, hframe⟩
  jvm_step X.here [X.here.top, hx, hb, hdg, hmeth', hr, ret, narrow_b1]
  (try refine ⟨rfl, ?_⟩); (try refine ⟨rfl, ?_⟩)
  first | (intro acts; rw [hret _ acts rfl rfl rfl]) | rw [hret _ _ rfl rfl rfl]
  exact Steps.refl _
/-- what holds at the law's entry: the machine, the code, the tables' words (any of lw_tbl by 'hts w (by decide +kernel)'), the script of L ints xs at the cell b, what the Statement gives of the start (any of its parts by flat_of_before) -/
def lw_At (p : Program) (s : State) (m : MethodId) (meth : Method) (c : Code) (b L : Nat) (xs : Nat → Int32) : Prop :=
  p.tables.exec = Jvm.exec ∧ c.code = code ∧ meth.sig.returnType = ret ∧ c.maxLocals = 4 ∧ s.vm.findClass R_law = some m.cls ∧ (∀ w ∈ lw_tbl, w.before #[Value.ref b] s = true) ∧ va_X b L xs s s.heap ∧ b < s.heap.size ∧ meth.locks = false ∧ (Jvm.Cond.and given_1 narrow_1).before #[Value.ref b] s = true
/-! ===== the law ===== -/
theorem sd_stay {L i : Nat} (hL : L ≤ 288) (h : 6 * i + 6 ≤ L) : ¬ nI L - 6 < nI (6 * i) := by
  rw [Int32.lt_iff_toInt_lt, show (6 : Int32) = nI 6 from rfl, pk_sub_toInt (by omega) (by omega), nI_toInt (by omega)]
  omega
theorem sd_exit {L i : Nat} (hL : L ≤ 288) (hi : i ≤ 48) (h : ¬ 6 * i + 6 ≤ L) : nI L - 6 < nI (6 * i) := by
  rw [Int32.lt_iff_toInt_lt, show (6 : Int32) = nI 6 from rfl, pk_sub_toInt (by omega) (by omega), nI_toInt (by omega)]
  omega
theorem sd_putR {n o : Nat} {w : Int32} {g h : Nat → Int32} (e : ∀ j, j < n → g j = h j) : ∀ j, j < n → sd_put g o w j = sd_put h o w j := by
  intro j hj
  unfold sd_put
  rw [e j hj]
theorem sd_relP {n o1 o2 o3 o4 : Nat} {a b c d : Int32} {m e um ue : Nat → Int32} (h : ∀ j, j < n → m j = e j &&& 255) (h1 : (fun j => ue j &&& 255) = sd_put (sd_put (sd_put (sd_put (fun j => e j &&& 255) o1 a) o2 b) o3 c) o4 d) (h2 : um = sd_put (sd_put (sd_put (sd_put m o1 a) o2 b) o3 c) o4 d) : ∀ j, j < n → um j = ue j &&& 255 := by
  intro j hj
  have e1 := congrFun h1 j
  have e2 : sd_put (sd_put (sd_put (sd_put m o1 a) o2 b) o3 c) o4 d j = sd_put (sd_put (sd_put (sd_put (fun j => e j &&& 255) o1 a) o2 b) o3 c) o4 d j := sd_putR (sd_putR (sd_putR (sd_putR h))) j hj
  rw [h2, e2]
  exact e1.symm
theorem sd_relA {b : Int32} {mk mb um ek eb ue : Nat → Int32} (hk : ∀ j, j < 32 → mk j = ek j &&& 255) (hb : ∀ j, j < 16 → mb j = eb j &&& 255) (h1 : ∀ j, j < 16 → ue j &&& 255 = sd_ans b (fun j => ek j &&& 255) (fun j => eb j &&& 255) j) (h2 : ∀ j, j < 16 → um j = sd_ans b mk mb j) : ∀ j, j < 16 → um j = ue j &&& 255 := by
  intro j hj
  rw [h1 j hj, h2 j hj]
  exact sd_ans_congr (fun j hj => hk j (by omega)) hb j
section SDLW
variable {p : Program} {l : Launch} {e : Env} {R : Room} {s : State} {m : MethodId} {args : Array Value} {below : List Frame} {meth : Method} {c : Code} {H : Heap} {locs : List Loc} {cells slots : Nat} {Q : State → Prop} {cc : ByteArray} {pc : Nat} {ls : Array Slot} {rest : List Value} {A : Nat → Prop} {H0 : Heap}
theorem sd_sld (hexec : p.tables.exec = Jvm.exec) (hb : c.code = cc) {b L : Nat} {xs : Nat → Int32} (hX : va_X b L xs s H0) (hbl : b < H0.size) (hbA : ¬ A b) (hS : va_S A H0 H locs) {i : Int32} {k : Nat} (hi : i = nI k) (hk : k < L) (hn : L < 2 ^ 31) (hdg : decode cc pc = .ok (.iaload, 1))
    (kk : W p l e R s m args below meth c H locs cells slots Q (F0 m (pc + 1) ls (.int (xs k) :: rest))) : W p l e R s m args below meth c H locs cells slots Q (F0 m pc ls (.int i :: .ref b :: rest)) := by
  subst hi
  refine va_sld hexec hb hX hbl hbA hS (vp_in_nI hk hn) hdg ?_
  rw [nI_clamp (Nat.lt_trans hk hn)]
  exact kk
end SDLW
set_option maxHeartbeats 4000000 in
set_option maxRecDepth 100000 in
/-- THE LAW'S LOOP: at its head, with i calls made, the desk's bytes are the reference's -/
theorem law_loop {p : Program} {l : Launch} {e : Env} {s : State} {m : MethodId} {below : List Frame} {meth : Method} {c : Code} {dC : Nat → ClassId} {dI : Nat → Nat → Nat} {cB cI : ClassId} {b L : Nat} {xs : Nat → Int32} {q0 k0 x0 y0 q1 k1 x1 y1 : Nat} (hL : L ≤ 288) (C0 : lw_At p s m meth c b L xs) (hK : va_K (dC, dI) sd_cl (sd_ty cB cI) s) (hV : sd_V (fun q : Nat => s.heap.size ≤ q) s) :
    ∀ (n i : Nat) (ek eb eo mk mb mo : Nat → Int32) (H : Heap) (locs : List Loc) (ls : Array Slot), i + n = 48 → (∀ j, j < 32 → mk j = ek j &&& 255) → (∀ j, j < 16 → mb j = eb j &&& 255) → (∀ j, j < 16 → mo j = eo j &&& 255) → va_P (dC, dI) sd_cl [(q0, .inr (0, [.ref k0, .ref x0, .ref y0])), (k0, .inl (cB, 32, .inl ek)), (x0, .inl (cB, 16, .inl eb)), (y0, .inl (cB, 16, .inl eo)), (q1, .inr (1, [.ref k1, .ref x1, .ref y1])), (k1, .inl (cI, 32, .inl mk)), (x1, .inl (cI, 16, .inl mb)), (y1, .inl (cI, 16, .inl mo))] H → va_D (fun q : Nat => s.heap.size ≤ q) [(q0, .inr (0, [.ref k0, .ref x0, .ref y0])), (k0, .inl (cB, 32, .inl ek)), (x0, .inl (cB, 16, .inl eb)), (y0, .inl (cB, 16, .inl eo)), (q1, .inr (1, [.ref k1, .ref x1, .ref y1])), (k1, .inl (cI, 32, .inl mk)), (x1, .inl (cI, 16, .inl mb)), (y1, .inl (cI, 16, .inl mo))] → va_S (fun q : Nat => s.heap.size ≤ q) s.heap H locs → lv_has ls 4 [(0, .ref b), (1, .ref q0), (2, .ref q1), (3, .int (nI (6 * i)))] → W p l e room_1 s m #[Value.ref b] below meth c H locs (8 + 104 * i) (134 + 456 * i) (lw_Z below #[Value.ref b] s) (F0 m 18 ls []) := by
  obtain ⟨hx, hb, hr, hml, hown, hts0, hX, hbl, hlocks, hgv⟩ := C0
  have hts : ∀ w ∈ lw_all, w.before #[Value.ref b] s = true := fun w h => hts0 w (lw_all_tbl h)
  have hA : ∀ q : Nat, s.heap.size ≤ q → (fun q : Nat => s.heap.size ≤ q) q := fun _ h => h
  have hbA : ¬ (fun q : Nat => s.heap.size ≤ q) b := Nat.not_le.mpr hbl
  intro n
  induction n with
  | zero =>
    intro i ek eb eo mk mb mo H locs ls hi rk rb ro hP hD hS hl
    have hlt : ¬ 6 * i + 6 ≤ L := by omega
    refine lv_iload_n hx hb dL_law_18 rfl (lv_at hl 3 rfl) ?_
    refine lv_aload_n hx hb dL_law_19 rfl (lv_at hl 0 rfl) ?_
    refine va_slen hx hb hX hbl hbA hS dL_law_20 ?_
    refine lv_bipush (v := 6) hx hb dL_law_21 (by decide) ?_
    refine lv_isub hx hb dL_law_23 ?_
    refine lv_icmp_gt (tgt := 266) hx hb dL_law_24 (by decide) (fun _ => ?_) (fun h => absurd (sd_exit hL (by omega) hlt) h)
    refine lv_iconst (v := 1) hx hb dL_law_266 (by decide) ?_
    refine va_forget (fun q hq => hS.2.2 q hq) ?_
    refine W.widen (k := 600096) (n := 7301386) (by omega) (by omega) ?_
    exact lw_ret hx hb hr hlocks dL_law_267
  | succ n ih =>
    intro i ek eb eo mk mb mo H locs ls hi rk rb ro hP hD hS hl
    have next : ∀ (ek eb eo mk mb mo : Nat → Int32) (H : Heap) (locs : List Loc) (ls : Array Slot), (∀ j, j < 32 → mk j = ek j &&& 255) → (∀ j, j < 16 → mb j = eb j &&& 255) → (∀ j, j < 16 → mo j = eo j &&& 255) → va_P (dC, dI) sd_cl [(q0, .inr (0, [.ref k0, .ref x0, .ref y0])), (k0, .inl (cB, 32, .inl ek)), (x0, .inl (cB, 16, .inl eb)), (y0, .inl (cB, 16, .inl eo)), (q1, .inr (1, [.ref k1, .ref x1, .ref y1])), (k1, .inl (cI, 32, .inl mk)), (x1, .inl (cI, 16, .inl mb)), (y1, .inl (cI, 16, .inl mo))] H → va_D (fun q : Nat => s.heap.size ≤ q) [(q0, .inr (0, [.ref k0, .ref x0, .ref y0])), (k0, .inl (cB, 32, .inl ek)), (x0, .inl (cB, 16, .inl eb)), (y0, .inl (cB, 16, .inl eo)), (q1, .inr (1, [.ref k1, .ref x1, .ref y1])), (k1, .inl (cI, 32, .inl mk)), (x1, .inl (cI, 16, .inl mb)), (y1, .inl (cI, 16, .inl mo))] → va_S (fun q : Nat => s.heap.size ≤ q) s.heap H locs → lv_has ls 4 [(0, .ref b), (1, .ref q0), (2, .ref q1), (3, .int (nI (6 * i)))] → W p l e room_1 s m #[Value.ref b] below meth c H locs (8 + 104 * (i + 1)) (134 + 456 * (i + 1)) (lw_Z below #[Value.ref b] s) (F0 m 260 ls []) := by
      intro ek eb eo mk mb mo H locs ls rk rb ro hP hD hS hl
      refine lv_iinc (v := (nI (6 * (i + 1)))) (lv' := [(3, .int (nI (6 * (i + 1)))), (0, .ref b), (1, .ref q0), (2, .ref q1)]) hx hb dL_law_260 hl (k := 3) rfl (nI_add (6 * i) 6) (by decide) rfl (fun ls hl => ?_)
      refine lv_goto (tgt := 18) hx hb dL_law_263 (by decide) ?_
      exact ih (i + 1) ek eb eo mk mb mo H locs ls (by omega) rk rb ro hP hD hS (lv_sub hl [1, 2, 3, 0] rfl)
    refine lv_iload_n hx hb dL_law_18 rfl (lv_at hl 3 rfl) ?_
    refine lv_aload_n hx hb dL_law_19 rfl (lv_at hl 0 rfl) ?_
    refine va_slen hx hb hX hbl hbA hS dL_law_20 ?_
    refine lv_bipush (v := 6) hx hb dL_law_21 (by decide) ?_
    refine lv_isub hx hb dL_law_23 ?_
    by_cases hlt : 6 * i + 6 ≤ L
    · skip
      refine lv_icmp_gt (tgt := 266) hx hb dL_law_24 (by decide) (fun h => absurd h (sd_stay hL hlt)) (fun _ => ?_)
      refine lv_aload_n hx hb dL_law_27 rfl (lv_at hl 0 rfl) ?_
      refine lv_iload_n hx hb dL_law_28 rfl (lv_at hl 3 rfl) ?_
      refine sd_sld hx hb hX hbl hbA hS (k := 6 * i) (rfl) (by omega) (by omega) dL_law_29 ?_
      refine lv_bipush (v := 7) hx hb dL_law_30 (by decide) ?_
      refine lv_iand hx hb dL_law_32 ?_
      obtain ⟨k8, hk8, hke⟩ := pk_andE (xs (6 * i)) (m := 7) 3 (by decide)
      refine sd_top (y := nI k8) hke ?_
      rcases (show k8 = 0 ∨ k8 = 1 ∨ k8 = 2 ∨ k8 = 3 ∨ k8 = 4 ∨ k8 = 5 ∨ k8 = 6 ∨ k8 = 7 by have := hk8; omega) with rfl | rfl | rfl | rfl | rfl | rfl | rfl | rfl
      · refine lv_tableIn (off := 39) (tgt := 72) hx hb dL_law_33 (by decide) (by decide) (by decide) (by decide) ?_
        refine lv_aload_n hx hb dL_law_72 rfl (lv_at hl 1 rfl) ?_
        refine lv_aload_n hx hb dL_law_73 rfl (lv_at hl 0 rfl) ?_
        refine lv_iload_n hx hb dL_law_74 rfl (lv_at hl 3 rfl) ?_
        refine lv_iconst (v := 1) hx hb dL_law_75 (by decide) ?_
        refine lv_iadd hx hb dL_law_76 ?_
        refine sd_sld hx hb hX hbl hbA hS (k := 6 * i + 1) (nI_add (6 * i) 1) (by omega) (by omega) dL_law_77 ?_
        refine lv_aload_n hx hb dL_law_78 rfl (lv_at hl 0 rfl) ?_
        refine lv_iload_n hx hb dL_law_79 rfl (lv_at hl 3 rfl) ?_
        refine lv_iconst (v := 2) hx hb dL_law_80 (by decide) ?_
        refine lv_iadd hx hb dL_law_81 ?_
        refine sd_sld hx hb hX hbl hbA hS (k := 6 * i + 2) (nI_add (6 * i) 2) (by omega) (by omega) dL_law_82 ?_
        refine lv_aload_n hx hb dL_law_83 rfl (lv_at hl 0 rfl) ?_
        refine lv_iload_n hx hb dL_law_84 rfl (lv_at hl 3 rfl) ?_
        refine lv_iconst (v := 3) hx hb dL_law_85 (by decide) ?_
        refine lv_iadd hx hb dL_law_86 ?_
        refine sd_sld hx hb hX hbl hbA hS (k := 6 * i + 3) (nI_add (6 * i) 3) (by omega) (by omega) dL_law_87 ?_
        refine lv_aload_n hx hb dL_law_88 rfl (lv_at hl 0 rfl) ?_
        refine lv_iload_n hx hb dL_law_89 rfl (lv_at hl 3 rfl) ?_
        refine lv_iconst (v := 4) hx hb dL_law_90 (by decide) ?_
        refine lv_iadd hx hb dL_law_91 ?_
        refine sd_sld hx hb hX hbl hbA hS (k := 6 * i + 4) (nI_add (6 * i) 4) (by omega) (by omega) dL_law_92 ?_
        refine lv_aload_n hx hb dL_law_93 rfl (lv_at hl 0 rfl) ?_
        refine lv_iload_n hx hb dL_law_94 rfl (lv_at hl 3 rfl) ?_
        refine lv_iconst (v := 5) hx hb dL_law_95 (by decide) ?_
        refine lv_iadd hx hb dL_law_96 ?_
        refine sd_sld hx hb hX hbl hbA hS (k := 6 * i + 5) (nI_add (6 * i) 5) (by omega) (by omega) dL_law_97 ?_
        have hPc := hP.sub (ws' := [(q0, .inr (0, [.ref k0, .ref x0, .ref y0])), (k0, .inl (cB, 32, .inl ek))]) [0, 1] rfl
        have hDc := hD.sub (ws' := [(q0, .inr (0, [.ref k0, .ref x0, .ref y0])), (k0, .inl (cB, 32, .inl ek))]) [0, 1] (by decide) rfl
        have hFc := va_free (wc := [(q0, .inr (0, [.ref k0, .ref x0, .ref y0])), (k0, .inl (cB, 32, .inl ek))]) hD hS hA [0, 1] rfl
        refine va_callv (va_runV (As := [.int (xs (6 * i + 1)), .int (xs (6 * i + 2)), .int (xs (6 * i + 3)), .int (xs (6 * i + 4)), .int (xs (6 * i + 5))]) (rest := []) ⟨hx, hb, hml, hown, hts⟩ (mt_dkey l dC dI cB cI q0 k0 x0 y0 ek (xs (6 * i + 1)) (xs (6 * i + 2)) (xs (6 * i + 3)) (xs (6 * i + 4)) (xs (6 * i + 5)) H.size) (cwV 5 hts (lw_V q48 q49 q50 q16 q51) rfl rfl rfl (by decide +kernel) ⟨Nat.le_of_ble_eq_true rfl, Nat.le_of_ble_eq_true rfl⟩) (sd_preV (va_recv hK hP (ci := 0) (q0 := 0) rfl rfl) hK hV hS hPc hDc hFc) rfl rfl hl.1 rfl (lv_room (Nat.le_of_ble_eq_true rfl)) dL_law_98 ⟨by show _ ≤ 600096; omega, by show _ ≤ 7301386; omega⟩) hS (fun q _ h => hFc q h) hFc (fun ue t H locs ht hvm hue hB hz1 hk1 hS => ?_)
        obtain ⟨hP1, hD1⟩ := hB
        rw [ht] at hP1
        obtain ⟨hP, hD⟩ := va_join (wr := [(x0, .inl (cB, 16, .inl eb)), (y0, .inl (cB, 16, .inl eo)), (q1, .inr (1, [.ref k1, .ref x1, .ref y1])), (k1, .inl (cI, 32, .inl mk)), (x1, .inl (cI, 16, .inl mb)), (y1, .inl (cI, 16, .inl mo))]) (w1 := [(q0, .inr (0, [.ref k0, .ref x0, .ref y0])), (k0, .inl (cB, 32, .inl ue))]) hP hD [0, 1] [2, 3, 4, 5, 6, 7] rfl rfl (by decide) (by decide) hk1 hFc hP1 hD1
        have hP : va_P (dC, dI) sd_cl [(x0, .inl (cB, 16, .inl eb)), (y0, .inl (cB, 16, .inl eo)), (q1, .inr (1, [.ref k1, .ref x1, .ref y1])), (k1, .inl (cI, 32, .inl mk)), (x1, .inl (cI, 16, .inl mb)), (y1, .inl (cI, 16, .inl mo)), (q0, .inr (0, [.ref k0, .ref x0, .ref y0])), (k0, .inl (cB, 32, .inl ue))] H := hP
        have hD : va_D (fun q : Nat => s.heap.size ≤ q) [(x0, .inl (cB, 16, .inl eb)), (y0, .inl (cB, 16, .inl eo)), (q1, .inr (1, [.ref k1, .ref x1, .ref y1])), (k1, .inl (cI, 32, .inl mk)), (x1, .inl (cI, 16, .inl mb)), (y1, .inl (cI, 16, .inl mo)), (q0, .inr (0, [.ref k0, .ref x0, .ref y0])), (k0, .inl (cB, 32, .inl ue))] := hD
        refine lv_aload_n hx hb dL_law_101 rfl (lv_at hl 2 rfl) ?_
        refine lv_aload_n hx hb dL_law_102 rfl (lv_at hl 0 rfl) ?_
        refine lv_iload_n hx hb dL_law_103 rfl (lv_at hl 3 rfl) ?_
        refine lv_iconst (v := 1) hx hb dL_law_104 (by decide) ?_
        refine lv_iadd hx hb dL_law_105 ?_
        refine sd_sld hx hb hX hbl hbA hS (k := 6 * i + 1) (nI_add (6 * i) 1) (by omega) (by omega) dL_law_106 ?_
        refine lv_aload_n hx hb dL_law_107 rfl (lv_at hl 0 rfl) ?_
        refine lv_iload_n hx hb dL_law_108 rfl (lv_at hl 3 rfl) ?_
        refine lv_iconst (v := 2) hx hb dL_law_109 (by decide) ?_
        refine lv_iadd hx hb dL_law_110 ?_
        refine sd_sld hx hb hX hbl hbA hS (k := 6 * i + 2) (nI_add (6 * i) 2) (by omega) (by omega) dL_law_111 ?_
        refine lv_aload_n hx hb dL_law_112 rfl (lv_at hl 0 rfl) ?_
        refine lv_iload_n hx hb dL_law_113 rfl (lv_at hl 3 rfl) ?_
        refine lv_iconst (v := 3) hx hb dL_law_114 (by decide) ?_
        refine lv_iadd hx hb dL_law_115 ?_
        refine sd_sld hx hb hX hbl hbA hS (k := 6 * i + 3) (nI_add (6 * i) 3) (by omega) (by omega) dL_law_116 ?_
        refine lv_aload_n hx hb dL_law_117 rfl (lv_at hl 0 rfl) ?_
        refine lv_iload_n hx hb dL_law_118 rfl (lv_at hl 3 rfl) ?_
        refine lv_iconst (v := 4) hx hb dL_law_119 (by decide) ?_
        refine lv_iadd hx hb dL_law_120 ?_
        refine sd_sld hx hb hX hbl hbA hS (k := 6 * i + 4) (nI_add (6 * i) 4) (by omega) (by omega) dL_law_121 ?_
        refine lv_aload_n hx hb dL_law_122 rfl (lv_at hl 0 rfl) ?_
        refine lv_iload_n hx hb dL_law_123 rfl (lv_at hl 3 rfl) ?_
        refine lv_iconst (v := 5) hx hb dL_law_124 (by decide) ?_
        refine lv_iadd hx hb dL_law_125 ?_
        refine sd_sld hx hb hX hbl hbA hS (k := 6 * i + 5) (nI_add (6 * i) 5) (by omega) (by omega) dL_law_126 ?_
        have hPc := hP.sub (ws' := [(q1, .inr (1, [.ref k1, .ref x1, .ref y1])), (k1, .inl (cI, 32, .inl mk))]) [2, 3] rfl
        have hDc := hD.sub (ws' := [(q1, .inr (1, [.ref k1, .ref x1, .ref y1])), (k1, .inl (cI, 32, .inl mk))]) [2, 3] (by decide) rfl
        have hFc := va_free (wc := [(q1, .inr (1, [.ref k1, .ref x1, .ref y1])), (k1, .inl (cI, 32, .inl mk))]) hD hS hA [2, 3] rfl
        refine va_callv (va_runV (As := [.int (xs (6 * i + 1)), .int (xs (6 * i + 2)), .int (xs (6 * i + 3)), .int (xs (6 * i + 4)), .int (xs (6 * i + 5))]) (rest := []) ⟨hx, hb, hml, hown, hts⟩ (mt_mkey l dC dI cB cI q1 k1 x1 y1 mk (xs (6 * i + 1)) (xs (6 * i + 2)) (xs (6 * i + 3)) (xs (6 * i + 4)) (xs (6 * i + 5)) H.size) (cwV 5 hts (lw_V q334 q335 q336 q17 q337) rfl rfl rfl (by decide +kernel) ⟨Nat.le_of_ble_eq_true rfl, Nat.le_of_ble_eq_true rfl⟩) (sd_preV (va_recv hK hP (ci := 1) (q0 := 2) rfl rfl) hK hV hS hPc hDc hFc) rfl rfl hl.1 rfl (lv_room (Nat.le_of_ble_eq_true rfl)) dL_law_127 ⟨by show _ ≤ 600096; omega, by show _ ≤ 7301386; omega⟩) hS (fun q _ h => hFc q h) hFc (fun um t H locs ht hvm hum hB hz1 hk1 hS => ?_)
        obtain ⟨hP1, hD1⟩ := hB
        rw [ht] at hP1
        obtain ⟨hP, hD⟩ := va_join (wr := [(x0, .inl (cB, 16, .inl eb)), (y0, .inl (cB, 16, .inl eo)), (x1, .inl (cI, 16, .inl mb)), (y1, .inl (cI, 16, .inl mo)), (q0, .inr (0, [.ref k0, .ref x0, .ref y0])), (k0, .inl (cB, 32, .inl ue))]) (w1 := [(q1, .inr (1, [.ref k1, .ref x1, .ref y1])), (k1, .inl (cI, 32, .inl um))]) hP hD [2, 3] [0, 1, 4, 5, 6, 7] rfl rfl (by decide) (by decide) hk1 hFc hP1 hD1
        have hP : va_P (dC, dI) sd_cl [(x0, .inl (cB, 16, .inl eb)), (y0, .inl (cB, 16, .inl eo)), (x1, .inl (cI, 16, .inl mb)), (y1, .inl (cI, 16, .inl mo)), (q0, .inr (0, [.ref k0, .ref x0, .ref y0])), (k0, .inl (cB, 32, .inl ue)), (q1, .inr (1, [.ref k1, .ref x1, .ref y1])), (k1, .inl (cI, 32, .inl um))] H := hP
        have hD : va_D (fun q : Nat => s.heap.size ≤ q) [(x0, .inl (cB, 16, .inl eb)), (y0, .inl (cB, 16, .inl eo)), (x1, .inl (cI, 16, .inl mb)), (y1, .inl (cI, 16, .inl mo)), (q0, .inr (0, [.ref k0, .ref x0, .ref y0])), (k0, .inl (cB, 32, .inl ue)), (q1, .inr (1, [.ref k1, .ref x1, .ref y1])), (k1, .inl (cI, 32, .inl um))] := hD
        refine lv_goto (tgt := 260) hx hb dL_law_130 (by decide) ?_
        refine W.widen (k := 8 + 104 * (i + 1)) (n := 134 + 456 * (i + 1)) (by omega) (by omega) ?_
        exact next ue eb eo um mb mo H locs ls (sd_relP rk hue hum) (rb) (ro) (hP.sub [4, 5, 0, 1, 6, 7, 2, 3] rfl) (hD.sub [4, 5, 0, 1, 6, 7, 2, 3] (by decide) rfl) hS hl
      · refine lv_tableIn (off := 100) (tgt := 133) hx hb dL_law_33 (by decide) (by decide) (by decide) (by decide) ?_
        refine lv_aload_n hx hb dL_law_133 rfl (lv_at hl 1 rfl) ?_
        refine lv_aload_n hx hb dL_law_134 rfl (lv_at hl 0 rfl) ?_
        refine lv_iload_n hx hb dL_law_135 rfl (lv_at hl 3 rfl) ?_
        refine lv_iconst (v := 1) hx hb dL_law_136 (by decide) ?_
        refine lv_iadd hx hb dL_law_137 ?_
        refine sd_sld hx hb hX hbl hbA hS (k := 6 * i + 1) (nI_add (6 * i) 1) (by omega) (by omega) dL_law_138 ?_
        refine lv_aload_n hx hb dL_law_139 rfl (lv_at hl 0 rfl) ?_
        refine lv_iload_n hx hb dL_law_140 rfl (lv_at hl 3 rfl) ?_
        refine lv_iconst (v := 2) hx hb dL_law_141 (by decide) ?_
        refine lv_iadd hx hb dL_law_142 ?_
        refine sd_sld hx hb hX hbl hbA hS (k := 6 * i + 2) (nI_add (6 * i) 2) (by omega) (by omega) dL_law_143 ?_
        refine lv_aload_n hx hb dL_law_144 rfl (lv_at hl 0 rfl) ?_
        refine lv_iload_n hx hb dL_law_145 rfl (lv_at hl 3 rfl) ?_
        refine lv_iconst (v := 3) hx hb dL_law_146 (by decide) ?_
        refine lv_iadd hx hb dL_law_147 ?_
        refine sd_sld hx hb hX hbl hbA hS (k := 6 * i + 3) (nI_add (6 * i) 3) (by omega) (by omega) dL_law_148 ?_
        refine lv_aload_n hx hb dL_law_149 rfl (lv_at hl 0 rfl) ?_
        refine lv_iload_n hx hb dL_law_150 rfl (lv_at hl 3 rfl) ?_
        refine lv_iconst (v := 4) hx hb dL_law_151 (by decide) ?_
        refine lv_iadd hx hb dL_law_152 ?_
        refine sd_sld hx hb hX hbl hbA hS (k := 6 * i + 4) (nI_add (6 * i) 4) (by omega) (by omega) dL_law_153 ?_
        have hPc := hP.sub (ws' := [(q0, .inr (0, [.ref k0, .ref x0, .ref y0])), (x0, .inl (cB, 16, .inl eb))]) [0, 2] rfl
        have hDc := hD.sub (ws' := [(q0, .inr (0, [.ref k0, .ref x0, .ref y0])), (x0, .inl (cB, 16, .inl eb))]) [0, 2] (by decide) rfl
        have hFc := va_free (wc := [(q0, .inr (0, [.ref k0, .ref x0, .ref y0])), (x0, .inl (cB, 16, .inl eb))]) hD hS hA [0, 2] rfl
        refine va_callv (va_runV (As := [.int (xs (6 * i + 1)), .int (xs (6 * i + 2)), .int (xs (6 * i + 3)), .int (xs (6 * i + 4))]) (rest := []) ⟨hx, hb, hml, hown, hts⟩ (mt_dblock l dC dI cB cI q0 k0 x0 y0 eb (xs (6 * i + 1)) (xs (6 * i + 2)) (xs (6 * i + 3)) (xs (6 * i + 4)) H.size) (cwV 4 hts (lw_V q55 q56 q57 q16 q58) rfl rfl rfl (by decide +kernel) ⟨Nat.le_of_ble_eq_true rfl, Nat.le_of_ble_eq_true rfl⟩) (sd_preV (va_recv hK hP (ci := 0) (q0 := 0) rfl rfl) hK hV hS hPc hDc hFc) rfl rfl hl.1 rfl (lv_room (Nat.le_of_ble_eq_true rfl)) dL_law_154 ⟨by show _ ≤ 600096; omega, by show _ ≤ 7301386; omega⟩) hS (fun q _ h => hFc q h) hFc (fun ue t H locs ht hvm hue hB hz1 hk1 hS => ?_)
        obtain ⟨hP1, hD1⟩ := hB
        rw [ht] at hP1
        obtain ⟨hP, hD⟩ := va_join (wr := [(k0, .inl (cB, 32, .inl ek)), (y0, .inl (cB, 16, .inl eo)), (q1, .inr (1, [.ref k1, .ref x1, .ref y1])), (k1, .inl (cI, 32, .inl mk)), (x1, .inl (cI, 16, .inl mb)), (y1, .inl (cI, 16, .inl mo))]) (w1 := [(q0, .inr (0, [.ref k0, .ref x0, .ref y0])), (x0, .inl (cB, 16, .inl ue))]) hP hD [0, 2] [1, 3, 4, 5, 6, 7] rfl rfl (by decide) (by decide) hk1 hFc hP1 hD1
        have hP : va_P (dC, dI) sd_cl [(k0, .inl (cB, 32, .inl ek)), (y0, .inl (cB, 16, .inl eo)), (q1, .inr (1, [.ref k1, .ref x1, .ref y1])), (k1, .inl (cI, 32, .inl mk)), (x1, .inl (cI, 16, .inl mb)), (y1, .inl (cI, 16, .inl mo)), (q0, .inr (0, [.ref k0, .ref x0, .ref y0])), (x0, .inl (cB, 16, .inl ue))] H := hP
        have hD : va_D (fun q : Nat => s.heap.size ≤ q) [(k0, .inl (cB, 32, .inl ek)), (y0, .inl (cB, 16, .inl eo)), (q1, .inr (1, [.ref k1, .ref x1, .ref y1])), (k1, .inl (cI, 32, .inl mk)), (x1, .inl (cI, 16, .inl mb)), (y1, .inl (cI, 16, .inl mo)), (q0, .inr (0, [.ref k0, .ref x0, .ref y0])), (x0, .inl (cB, 16, .inl ue))] := hD
        refine lv_aload_n hx hb dL_law_157 rfl (lv_at hl 2 rfl) ?_
        refine lv_aload_n hx hb dL_law_158 rfl (lv_at hl 0 rfl) ?_
        refine lv_iload_n hx hb dL_law_159 rfl (lv_at hl 3 rfl) ?_
        refine lv_iconst (v := 1) hx hb dL_law_160 (by decide) ?_
        refine lv_iadd hx hb dL_law_161 ?_
        refine sd_sld hx hb hX hbl hbA hS (k := 6 * i + 1) (nI_add (6 * i) 1) (by omega) (by omega) dL_law_162 ?_
        refine lv_aload_n hx hb dL_law_163 rfl (lv_at hl 0 rfl) ?_
        refine lv_iload_n hx hb dL_law_164 rfl (lv_at hl 3 rfl) ?_
        refine lv_iconst (v := 2) hx hb dL_law_165 (by decide) ?_
        refine lv_iadd hx hb dL_law_166 ?_
        refine sd_sld hx hb hX hbl hbA hS (k := 6 * i + 2) (nI_add (6 * i) 2) (by omega) (by omega) dL_law_167 ?_
        refine lv_aload_n hx hb dL_law_168 rfl (lv_at hl 0 rfl) ?_
        refine lv_iload_n hx hb dL_law_169 rfl (lv_at hl 3 rfl) ?_
        refine lv_iconst (v := 3) hx hb dL_law_170 (by decide) ?_
        refine lv_iadd hx hb dL_law_171 ?_
        refine sd_sld hx hb hX hbl hbA hS (k := 6 * i + 3) (nI_add (6 * i) 3) (by omega) (by omega) dL_law_172 ?_
        refine lv_aload_n hx hb dL_law_173 rfl (lv_at hl 0 rfl) ?_
        refine lv_iload_n hx hb dL_law_174 rfl (lv_at hl 3 rfl) ?_
        refine lv_iconst (v := 4) hx hb dL_law_175 (by decide) ?_
        refine lv_iadd hx hb dL_law_176 ?_
        refine sd_sld hx hb hX hbl hbA hS (k := 6 * i + 4) (nI_add (6 * i) 4) (by omega) (by omega) dL_law_177 ?_
        have hPc := hP.sub (ws' := [(q1, .inr (1, [.ref k1, .ref x1, .ref y1])), (x1, .inl (cI, 16, .inl mb))]) [2, 4] rfl
        have hDc := hD.sub (ws' := [(q1, .inr (1, [.ref k1, .ref x1, .ref y1])), (x1, .inl (cI, 16, .inl mb))]) [2, 4] (by decide) rfl
        have hFc := va_free (wc := [(q1, .inr (1, [.ref k1, .ref x1, .ref y1])), (x1, .inl (cI, 16, .inl mb))]) hD hS hA [2, 4] rfl
        refine va_callv (va_runV (As := [.int (xs (6 * i + 1)), .int (xs (6 * i + 2)), .int (xs (6 * i + 3)), .int (xs (6 * i + 4))]) (rest := []) ⟨hx, hb, hml, hown, hts⟩ (mt_mblock l dC dI cB cI q1 k1 x1 y1 mb (xs (6 * i + 1)) (xs (6 * i + 2)) (xs (6 * i + 3)) (xs (6 * i + 4)) H.size) (cwV 4 hts (lw_V q341 q342 q343 q17 q344) rfl rfl rfl (by decide +kernel) ⟨Nat.le_of_ble_eq_true rfl, Nat.le_of_ble_eq_true rfl⟩) (sd_preV (va_recv hK hP (ci := 1) (q0 := 2) rfl rfl) hK hV hS hPc hDc hFc) rfl rfl hl.1 rfl (lv_room (Nat.le_of_ble_eq_true rfl)) dL_law_178 ⟨by show _ ≤ 600096; omega, by show _ ≤ 7301386; omega⟩) hS (fun q _ h => hFc q h) hFc (fun um t H locs ht hvm hum hB hz1 hk1 hS => ?_)
        obtain ⟨hP1, hD1⟩ := hB
        rw [ht] at hP1
        obtain ⟨hP, hD⟩ := va_join (wr := [(k0, .inl (cB, 32, .inl ek)), (y0, .inl (cB, 16, .inl eo)), (k1, .inl (cI, 32, .inl mk)), (y1, .inl (cI, 16, .inl mo)), (q0, .inr (0, [.ref k0, .ref x0, .ref y0])), (x0, .inl (cB, 16, .inl ue))]) (w1 := [(q1, .inr (1, [.ref k1, .ref x1, .ref y1])), (x1, .inl (cI, 16, .inl um))]) hP hD [2, 4] [0, 1, 3, 5, 6, 7] rfl rfl (by decide) (by decide) hk1 hFc hP1 hD1
        have hP : va_P (dC, dI) sd_cl [(k0, .inl (cB, 32, .inl ek)), (y0, .inl (cB, 16, .inl eo)), (k1, .inl (cI, 32, .inl mk)), (y1, .inl (cI, 16, .inl mo)), (q0, .inr (0, [.ref k0, .ref x0, .ref y0])), (x0, .inl (cB, 16, .inl ue)), (q1, .inr (1, [.ref k1, .ref x1, .ref y1])), (x1, .inl (cI, 16, .inl um))] H := hP
        have hD : va_D (fun q : Nat => s.heap.size ≤ q) [(k0, .inl (cB, 32, .inl ek)), (y0, .inl (cB, 16, .inl eo)), (k1, .inl (cI, 32, .inl mk)), (y1, .inl (cI, 16, .inl mo)), (q0, .inr (0, [.ref k0, .ref x0, .ref y0])), (x0, .inl (cB, 16, .inl ue)), (q1, .inr (1, [.ref k1, .ref x1, .ref y1])), (x1, .inl (cI, 16, .inl um))] := hD
        refine lv_goto (tgt := 260) hx hb dL_law_181 (by decide) ?_
        refine W.widen (k := 8 + 104 * (i + 1)) (n := 134 + 456 * (i + 1)) (by omega) (by omega) ?_
        exact next ek ue eo mk um mo H locs ls (rk) (sd_relP rb hue hum) (ro) (hP.sub [4, 0, 5, 1, 6, 2, 7, 3] rfl) (hD.sub [4, 0, 5, 1, 6, 2, 7, 3] (by decide) rfl) hS hl
      · refine lv_tableIn (off := 151) (tgt := 184) hx hb dL_law_33 (by decide) (by decide) (by decide) (by decide) ?_
        refine lv_aload_n hx hb dL_law_184 rfl (lv_at hl 1 rfl) ?_
        refine lv_aload_n hx hb dL_law_185 rfl (lv_at hl 0 rfl) ?_
        refine lv_iload_n hx hb dL_law_186 rfl (lv_at hl 3 rfl) ?_
        refine lv_iconst (v := 1) hx hb dL_law_187 (by decide) ?_
        refine lv_iadd hx hb dL_law_188 ?_
        refine sd_sld hx hb hX hbl hbA hS (k := 6 * i + 1) (nI_add (6 * i) 1) (by omega) (by omega) dL_law_189 ?_
        have hPc := hP.sub (ws' := [(q0, .inr (0, [.ref k0, .ref x0, .ref y0])), (k0, .inl (cB, 32, .inl ek)), (x0, .inl (cB, 16, .inl eb)), (y0, .inl (cB, 16, .inl eo))]) [0, 1, 2, 3] rfl
        have hDc := hD.sub (ws' := [(q0, .inr (0, [.ref k0, .ref x0, .ref y0])), (k0, .inl (cB, 32, .inl ek)), (x0, .inl (cB, 16, .inl eb)), (y0, .inl (cB, 16, .inl eo))]) [0, 1, 2, 3] (by decide) rfl
        have hFc := va_free (wc := [(q0, .inr (0, [.ref k0, .ref x0, .ref y0])), (k0, .inl (cB, 32, .inl ek)), (x0, .inl (cB, 16, .inl eb)), (y0, .inl (cB, 16, .inl eo))]) hD hS hA [0, 1, 2, 3] rfl
        refine va_callv (va_runV (As := [.int (xs (6 * i + 1))]) (rest := []) ⟨hx, hb, hml, hown, hts⟩ (mt_dlock l dC dI cB cI q0 k0 x0 y0 (xs (6 * i + 1)) ek eb eo H.size) (cwV 1 hts (lw_V q59 q60 q61 q16 q62) rfl rfl rfl (by decide +kernel) ⟨Nat.le_of_ble_eq_true rfl, Nat.le_of_ble_eq_true rfl⟩) (sd_preV (va_recv hK hP (ci := 0) (q0 := 0) rfl rfl) hK hV hS hPc hDc hFc) rfl rfl hl.1 rfl (lv_room (Nat.le_of_ble_eq_true rfl)) dL_law_190 ⟨by show _ ≤ 600096; omega, by show _ ≤ 7301386; omega⟩) hS (fun q _ h => hFc q h) hFc (fun ue t H locs ht hvm hue hB hz1 hk1 hS => ?_)
        obtain ⟨hP1, hD1⟩ := hB
        rw [ht] at hP1
        obtain ⟨hP, hD⟩ := va_join (wr := [(q1, .inr (1, [.ref k1, .ref x1, .ref y1])), (k1, .inl (cI, 32, .inl mk)), (x1, .inl (cI, 16, .inl mb)), (y1, .inl (cI, 16, .inl mo))]) (w1 := [(q0, .inr (0, [.ref k0, .ref x0, .ref y0])), (k0, .inl (cB, 32, .inl ek)), (x0, .inl (cB, 16, .inl eb)), (y0, .inl (cB, 16, .inl ue))]) hP hD [0, 1, 2, 3] [4, 5, 6, 7] rfl rfl (by decide) (by decide) hk1 hFc hP1 hD1
        have hP : va_P (dC, dI) sd_cl [(q1, .inr (1, [.ref k1, .ref x1, .ref y1])), (k1, .inl (cI, 32, .inl mk)), (x1, .inl (cI, 16, .inl mb)), (y1, .inl (cI, 16, .inl mo)), (q0, .inr (0, [.ref k0, .ref x0, .ref y0])), (k0, .inl (cB, 32, .inl ek)), (x0, .inl (cB, 16, .inl eb)), (y0, .inl (cB, 16, .inl ue))] H := hP
        have hD : va_D (fun q : Nat => s.heap.size ≤ q) [(q1, .inr (1, [.ref k1, .ref x1, .ref y1])), (k1, .inl (cI, 32, .inl mk)), (x1, .inl (cI, 16, .inl mb)), (y1, .inl (cI, 16, .inl mo)), (q0, .inr (0, [.ref k0, .ref x0, .ref y0])), (k0, .inl (cB, 32, .inl ek)), (x0, .inl (cB, 16, .inl eb)), (y0, .inl (cB, 16, .inl ue))] := hD
        refine lv_aload_n hx hb dL_law_193 rfl (lv_at hl 2 rfl) ?_
        refine lv_aload_n hx hb dL_law_194 rfl (lv_at hl 0 rfl) ?_
        refine lv_iload_n hx hb dL_law_195 rfl (lv_at hl 3 rfl) ?_
        refine lv_iconst (v := 1) hx hb dL_law_196 (by decide) ?_
        refine lv_iadd hx hb dL_law_197 ?_
        refine sd_sld hx hb hX hbl hbA hS (k := 6 * i + 1) (nI_add (6 * i) 1) (by omega) (by omega) dL_law_198 ?_
        have hPc := hP.sub (ws' := [(q1, .inr (1, [.ref k1, .ref x1, .ref y1])), (k1, .inl (cI, 32, .inl mk)), (x1, .inl (cI, 16, .inl mb)), (y1, .inl (cI, 16, .inl mo))]) [0, 1, 2, 3] rfl
        have hDc := hD.sub (ws' := [(q1, .inr (1, [.ref k1, .ref x1, .ref y1])), (k1, .inl (cI, 32, .inl mk)), (x1, .inl (cI, 16, .inl mb)), (y1, .inl (cI, 16, .inl mo))]) [0, 1, 2, 3] (by decide) rfl
        have hFc := va_free (wc := [(q1, .inr (1, [.ref k1, .ref x1, .ref y1])), (k1, .inl (cI, 32, .inl mk)), (x1, .inl (cI, 16, .inl mb)), (y1, .inl (cI, 16, .inl mo))]) hD hS hA [0, 1, 2, 3] rfl
        refine va_callv (va_runV (As := [.int (xs (6 * i + 1))]) (rest := []) ⟨hx, hb, hml, hown, hts⟩ (mt_mlock l dC dI cB cI q1 k1 x1 y1 (xs (6 * i + 1)) mk mb mo H.size) (cwV 1 hts (lw_V q345 q346 q347 q17 q348) rfl rfl rfl (by decide +kernel) ⟨Nat.le_of_ble_eq_true rfl, Nat.le_of_ble_eq_true rfl⟩) (sd_preV (va_recv hK hP (ci := 1) (q0 := 0) rfl rfl) hK hV hS hPc hDc hFc) rfl rfl hl.1 rfl (lv_room (Nat.le_of_ble_eq_true rfl)) dL_law_199 ⟨by show _ ≤ 600096; omega, by show _ ≤ 7301386; omega⟩) hS (fun q _ h => hFc q h) hFc (fun um t H locs ht hvm hum hB hz1 hk1 hS => ?_)
        obtain ⟨hP1, hD1⟩ := hB
        rw [ht] at hP1
        obtain ⟨hP, hD⟩ := va_join (wr := [(q0, .inr (0, [.ref k0, .ref x0, .ref y0])), (k0, .inl (cB, 32, .inl ek)), (x0, .inl (cB, 16, .inl eb)), (y0, .inl (cB, 16, .inl ue))]) (w1 := [(q1, .inr (1, [.ref k1, .ref x1, .ref y1])), (k1, .inl (cI, 32, .inl mk)), (x1, .inl (cI, 16, .inl mb)), (y1, .inl (cI, 16, .inl um))]) hP hD [0, 1, 2, 3] [4, 5, 6, 7] rfl rfl (by decide) (by decide) hk1 hFc hP1 hD1
        have hP : va_P (dC, dI) sd_cl [(q0, .inr (0, [.ref k0, .ref x0, .ref y0])), (k0, .inl (cB, 32, .inl ek)), (x0, .inl (cB, 16, .inl eb)), (y0, .inl (cB, 16, .inl ue)), (q1, .inr (1, [.ref k1, .ref x1, .ref y1])), (k1, .inl (cI, 32, .inl mk)), (x1, .inl (cI, 16, .inl mb)), (y1, .inl (cI, 16, .inl um))] H := hP
        have hD : va_D (fun q : Nat => s.heap.size ≤ q) [(q0, .inr (0, [.ref k0, .ref x0, .ref y0])), (k0, .inl (cB, 32, .inl ek)), (x0, .inl (cB, 16, .inl eb)), (y0, .inl (cB, 16, .inl ue)), (q1, .inr (1, [.ref k1, .ref x1, .ref y1])), (k1, .inl (cI, 32, .inl mk)), (x1, .inl (cI, 16, .inl mb)), (y1, .inl (cI, 16, .inl um))] := hD
        refine lv_goto (tgt := 260) hx hb dL_law_202 (by decide) ?_
        refine W.widen (k := 8 + 104 * (i + 1)) (n := 134 + 456 * (i + 1)) (by omega) (by omega) ?_
        exact next ek eb ue mk mb um H locs ls (rk) (rb) (sd_relA rk rb hue hum) (hP.sub [0, 1, 2, 3, 4, 5, 6, 7] rfl) (hD.sub [0, 1, 2, 3, 4, 5, 6, 7] (by decide) rfl) hS hl
      · refine lv_tableIn (off := 172) (tgt := 205) hx hb dL_law_33 (by decide) (by decide) (by decide) (by decide) ?_
        refine lv_aload_n hx hb dL_law_205 rfl (lv_at hl 1 rfl) ?_
        refine lv_aload_n hx hb dL_law_206 rfl (lv_at hl 0 rfl) ?_
        refine lv_iload_n hx hb dL_law_207 rfl (lv_at hl 3 rfl) ?_
        refine lv_iconst (v := 1) hx hb dL_law_208 (by decide) ?_
        refine lv_iadd hx hb dL_law_209 ?_
        refine sd_sld hx hb hX hbl hbA hS (k := 6 * i + 1) (nI_add (6 * i) 1) (by omega) (by omega) dL_law_210 ?_
        have hPc := hP.sub (ws' := [(q0, .inr (0, [.ref k0, .ref x0, .ref y0])), (k0, .inl (cB, 32, .inl ek)), (x0, .inl (cB, 16, .inl eb)), (y0, .inl (cB, 16, .inl eo))]) [0, 1, 2, 3] rfl
        have hDc := hD.sub (ws' := [(q0, .inr (0, [.ref k0, .ref x0, .ref y0])), (k0, .inl (cB, 32, .inl ek)), (x0, .inl (cB, 16, .inl eb)), (y0, .inl (cB, 16, .inl eo))]) [0, 1, 2, 3] (by decide) rfl
        have hFc := va_free (wc := [(q0, .inr (0, [.ref k0, .ref x0, .ref y0])), (k0, .inl (cB, 32, .inl ek)), (x0, .inl (cB, 16, .inl eb)), (y0, .inl (cB, 16, .inl eo))]) hD hS hA [0, 1, 2, 3] rfl
        refine va_callv (va_runV (As := [.int (xs (6 * i + 1))]) (rest := []) ⟨hx, hb, hml, hown, hts⟩ (mt_dopen l dC dI cB cI q0 k0 x0 y0 (xs (6 * i + 1)) ek eb eo H.size) (cwV 1 hts (lw_V q306 q307 q308 q16 q309) rfl rfl rfl (by decide +kernel) ⟨Nat.le_of_ble_eq_true rfl, Nat.le_of_ble_eq_true rfl⟩) (sd_preV (va_recv hK hP (ci := 0) (q0 := 0) rfl rfl) hK hV hS hPc hDc hFc) rfl rfl hl.1 rfl (lv_room (Nat.le_of_ble_eq_true rfl)) dL_law_211 ⟨by show _ ≤ 600096; omega, by show _ ≤ 7301386; omega⟩) hS (fun q _ h => hFc q h) hFc (fun ue t H locs ht hvm hue hB hz1 hk1 hS => ?_)
        obtain ⟨hP1, hD1⟩ := hB
        rw [ht] at hP1
        obtain ⟨hP, hD⟩ := va_join (wr := [(q1, .inr (1, [.ref k1, .ref x1, .ref y1])), (k1, .inl (cI, 32, .inl mk)), (x1, .inl (cI, 16, .inl mb)), (y1, .inl (cI, 16, .inl mo))]) (w1 := [(q0, .inr (0, [.ref k0, .ref x0, .ref y0])), (k0, .inl (cB, 32, .inl ek)), (x0, .inl (cB, 16, .inl eb)), (y0, .inl (cB, 16, .inl ue))]) hP hD [0, 1, 2, 3] [4, 5, 6, 7] rfl rfl (by decide) (by decide) hk1 hFc hP1 hD1
        have hP : va_P (dC, dI) sd_cl [(q1, .inr (1, [.ref k1, .ref x1, .ref y1])), (k1, .inl (cI, 32, .inl mk)), (x1, .inl (cI, 16, .inl mb)), (y1, .inl (cI, 16, .inl mo)), (q0, .inr (0, [.ref k0, .ref x0, .ref y0])), (k0, .inl (cB, 32, .inl ek)), (x0, .inl (cB, 16, .inl eb)), (y0, .inl (cB, 16, .inl ue))] H := hP
        have hD : va_D (fun q : Nat => s.heap.size ≤ q) [(q1, .inr (1, [.ref k1, .ref x1, .ref y1])), (k1, .inl (cI, 32, .inl mk)), (x1, .inl (cI, 16, .inl mb)), (y1, .inl (cI, 16, .inl mo)), (q0, .inr (0, [.ref k0, .ref x0, .ref y0])), (k0, .inl (cB, 32, .inl ek)), (x0, .inl (cB, 16, .inl eb)), (y0, .inl (cB, 16, .inl ue))] := hD
        refine lv_aload_n hx hb dL_law_214 rfl (lv_at hl 2 rfl) ?_
        refine lv_aload_n hx hb dL_law_215 rfl (lv_at hl 0 rfl) ?_
        refine lv_iload_n hx hb dL_law_216 rfl (lv_at hl 3 rfl) ?_
        refine lv_iconst (v := 1) hx hb dL_law_217 (by decide) ?_
        refine lv_iadd hx hb dL_law_218 ?_
        refine sd_sld hx hb hX hbl hbA hS (k := 6 * i + 1) (nI_add (6 * i) 1) (by omega) (by omega) dL_law_219 ?_
        have hPc := hP.sub (ws' := [(q1, .inr (1, [.ref k1, .ref x1, .ref y1])), (k1, .inl (cI, 32, .inl mk)), (x1, .inl (cI, 16, .inl mb)), (y1, .inl (cI, 16, .inl mo))]) [0, 1, 2, 3] rfl
        have hDc := hD.sub (ws' := [(q1, .inr (1, [.ref k1, .ref x1, .ref y1])), (k1, .inl (cI, 32, .inl mk)), (x1, .inl (cI, 16, .inl mb)), (y1, .inl (cI, 16, .inl mo))]) [0, 1, 2, 3] (by decide) rfl
        have hFc := va_free (wc := [(q1, .inr (1, [.ref k1, .ref x1, .ref y1])), (k1, .inl (cI, 32, .inl mk)), (x1, .inl (cI, 16, .inl mb)), (y1, .inl (cI, 16, .inl mo))]) hD hS hA [0, 1, 2, 3] rfl
        refine va_callv (va_runV (As := [.int (xs (6 * i + 1))]) (rest := []) ⟨hx, hb, hml, hown, hts⟩ (mt_mopen l dC dI cB cI q1 k1 x1 y1 (xs (6 * i + 1)) mk mb mo H.size) (cwV 1 hts (lw_V q370 q371 q372 q17 q373) rfl rfl rfl (by decide +kernel) ⟨Nat.le_of_ble_eq_true rfl, Nat.le_of_ble_eq_true rfl⟩) (sd_preV (va_recv hK hP (ci := 1) (q0 := 0) rfl rfl) hK hV hS hPc hDc hFc) rfl rfl hl.1 rfl (lv_room (Nat.le_of_ble_eq_true rfl)) dL_law_220 ⟨by show _ ≤ 600096; omega, by show _ ≤ 7301386; omega⟩) hS (fun q _ h => hFc q h) hFc (fun um t H locs ht hvm hum hB hz1 hk1 hS => ?_)
        obtain ⟨hP1, hD1⟩ := hB
        rw [ht] at hP1
        obtain ⟨hP, hD⟩ := va_join (wr := [(q0, .inr (0, [.ref k0, .ref x0, .ref y0])), (k0, .inl (cB, 32, .inl ek)), (x0, .inl (cB, 16, .inl eb)), (y0, .inl (cB, 16, .inl ue))]) (w1 := [(q1, .inr (1, [.ref k1, .ref x1, .ref y1])), (k1, .inl (cI, 32, .inl mk)), (x1, .inl (cI, 16, .inl mb)), (y1, .inl (cI, 16, .inl um))]) hP hD [0, 1, 2, 3] [4, 5, 6, 7] rfl rfl (by decide) (by decide) hk1 hFc hP1 hD1
        have hP : va_P (dC, dI) sd_cl [(q0, .inr (0, [.ref k0, .ref x0, .ref y0])), (k0, .inl (cB, 32, .inl ek)), (x0, .inl (cB, 16, .inl eb)), (y0, .inl (cB, 16, .inl ue)), (q1, .inr (1, [.ref k1, .ref x1, .ref y1])), (k1, .inl (cI, 32, .inl mk)), (x1, .inl (cI, 16, .inl mb)), (y1, .inl (cI, 16, .inl um))] H := hP
        have hD : va_D (fun q : Nat => s.heap.size ≤ q) [(q0, .inr (0, [.ref k0, .ref x0, .ref y0])), (k0, .inl (cB, 32, .inl ek)), (x0, .inl (cB, 16, .inl eb)), (y0, .inl (cB, 16, .inl ue)), (q1, .inr (1, [.ref k1, .ref x1, .ref y1])), (k1, .inl (cI, 32, .inl mk)), (x1, .inl (cI, 16, .inl mb)), (y1, .inl (cI, 16, .inl um))] := hD
        refine lv_goto (tgt := 260) hx hb dL_law_223 (by decide) ?_
        refine W.widen (k := 8 + 104 * (i + 1)) (n := 134 + 456 * (i + 1)) (by omega) (by omega) ?_
        exact next ek eb ue mk mb um H locs ls (rk) (rb) (sd_relA rk rb hue hum) (hP.sub [0, 1, 2, 3, 4, 5, 6, 7] rfl) (hD.sub [0, 1, 2, 3, 4, 5, 6, 7] (by decide) rfl) hS hl
      · refine lv_tableIn (off := 193) (tgt := 226) hx hb dL_law_33 (by decide) (by decide) (by decide) (by decide) ?_
        refine lv_aload_n hx hb dL_law_226 rfl (lv_at hl 1 rfl) ?_
        have hPc := hP.sub (ws' := [(q0, .inr (0, [.ref k0, .ref x0, .ref y0])), (x0, .inl (cB, 16, .inl eb)), (y0, .inl (cB, 16, .inl eo))]) [0, 2, 3] rfl
        have hDc := hD.sub (ws' := [(q0, .inr (0, [.ref k0, .ref x0, .ref y0])), (x0, .inl (cB, 16, .inl eb)), (y0, .inl (cB, 16, .inl eo))]) [0, 2, 3] (by decide) rfl
        have hFc := va_free (wc := [(q0, .inr (0, [.ref k0, .ref x0, .ref y0])), (x0, .inl (cB, 16, .inl eb)), (y0, .inl (cB, 16, .inl eo))]) hD hS hA [0, 2, 3] rfl
        refine va_callv (va_runV (As := []) (rest := []) ⟨hx, hb, hml, hown, hts⟩ (mt_dagain l dC dI cB cI q0 k0 x0 y0 eb eo H.size) (cwV 0 hts (lw_V q310 q311 q312 q16 q313) rfl rfl rfl (by decide +kernel) ⟨Nat.le_of_ble_eq_true rfl, Nat.le_of_ble_eq_true rfl⟩) (sd_preV (va_recv hK hP (ci := 0) (q0 := 0) rfl rfl) hK hV hS hPc hDc hFc) rfl rfl hl.1 rfl (lv_room (Nat.le_of_ble_eq_true rfl)) dL_law_227 ⟨by show _ ≤ 600096; omega, by show _ ≤ 7301386; omega⟩) hS (fun q _ h => hFc q h) hFc (fun ue t H locs ht hvm hue hB hz1 hk1 hS => ?_)
        obtain ⟨hP1, hD1⟩ := hB
        rw [ht] at hP1
        obtain ⟨hP, hD⟩ := va_join (wr := [(k0, .inl (cB, 32, .inl ek)), (q1, .inr (1, [.ref k1, .ref x1, .ref y1])), (k1, .inl (cI, 32, .inl mk)), (x1, .inl (cI, 16, .inl mb)), (y1, .inl (cI, 16, .inl mo))]) (w1 := [(q0, .inr (0, [.ref k0, .ref x0, .ref y0])), (x0, .inl (cB, 16, .inl ue)), (y0, .inl (cB, 16, .inl eo))]) hP hD [0, 2, 3] [1, 4, 5, 6, 7] rfl rfl (by decide) (by decide) hk1 hFc hP1 hD1
        have hP : va_P (dC, dI) sd_cl [(k0, .inl (cB, 32, .inl ek)), (q1, .inr (1, [.ref k1, .ref x1, .ref y1])), (k1, .inl (cI, 32, .inl mk)), (x1, .inl (cI, 16, .inl mb)), (y1, .inl (cI, 16, .inl mo)), (q0, .inr (0, [.ref k0, .ref x0, .ref y0])), (x0, .inl (cB, 16, .inl ue)), (y0, .inl (cB, 16, .inl eo))] H := hP
        have hD : va_D (fun q : Nat => s.heap.size ≤ q) [(k0, .inl (cB, 32, .inl ek)), (q1, .inr (1, [.ref k1, .ref x1, .ref y1])), (k1, .inl (cI, 32, .inl mk)), (x1, .inl (cI, 16, .inl mb)), (y1, .inl (cI, 16, .inl mo)), (q0, .inr (0, [.ref k0, .ref x0, .ref y0])), (x0, .inl (cB, 16, .inl ue)), (y0, .inl (cB, 16, .inl eo))] := hD
        refine lv_aload_n hx hb dL_law_230 rfl (lv_at hl 2 rfl) ?_
        have hPc := hP.sub (ws' := [(q1, .inr (1, [.ref k1, .ref x1, .ref y1])), (x1, .inl (cI, 16, .inl mb)), (y1, .inl (cI, 16, .inl mo))]) [1, 3, 4] rfl
        have hDc := hD.sub (ws' := [(q1, .inr (1, [.ref k1, .ref x1, .ref y1])), (x1, .inl (cI, 16, .inl mb)), (y1, .inl (cI, 16, .inl mo))]) [1, 3, 4] (by decide) rfl
        have hFc := va_free (wc := [(q1, .inr (1, [.ref k1, .ref x1, .ref y1])), (x1, .inl (cI, 16, .inl mb)), (y1, .inl (cI, 16, .inl mo))]) hD hS hA [1, 3, 4] rfl
        refine va_callv (va_runV (As := []) (rest := []) ⟨hx, hb, hml, hown, hts⟩ (mt_magain l dC dI cB cI q1 k1 x1 y1 mb mo H.size) (cwV 0 hts (lw_V q374 q375 q376 q17 q377) rfl rfl rfl (by decide +kernel) ⟨Nat.le_of_ble_eq_true rfl, Nat.le_of_ble_eq_true rfl⟩) (sd_preV (va_recv hK hP (ci := 1) (q0 := 1) rfl rfl) hK hV hS hPc hDc hFc) rfl rfl hl.1 rfl (lv_room (Nat.le_of_ble_eq_true rfl)) dL_law_231 ⟨by show _ ≤ 600096; omega, by show _ ≤ 7301386; omega⟩) hS (fun q _ h => hFc q h) hFc (fun um t H locs ht hvm hum hB hz1 hk1 hS => ?_)
        obtain ⟨hP1, hD1⟩ := hB
        rw [ht] at hP1
        obtain ⟨hP, hD⟩ := va_join (wr := [(k0, .inl (cB, 32, .inl ek)), (k1, .inl (cI, 32, .inl mk)), (q0, .inr (0, [.ref k0, .ref x0, .ref y0])), (x0, .inl (cB, 16, .inl ue)), (y0, .inl (cB, 16, .inl eo))]) (w1 := [(q1, .inr (1, [.ref k1, .ref x1, .ref y1])), (x1, .inl (cI, 16, .inl um)), (y1, .inl (cI, 16, .inl mo))]) hP hD [1, 3, 4] [0, 2, 5, 6, 7] rfl rfl (by decide) (by decide) hk1 hFc hP1 hD1
        have hP : va_P (dC, dI) sd_cl [(k0, .inl (cB, 32, .inl ek)), (k1, .inl (cI, 32, .inl mk)), (q0, .inr (0, [.ref k0, .ref x0, .ref y0])), (x0, .inl (cB, 16, .inl ue)), (y0, .inl (cB, 16, .inl eo)), (q1, .inr (1, [.ref k1, .ref x1, .ref y1])), (x1, .inl (cI, 16, .inl um)), (y1, .inl (cI, 16, .inl mo))] H := hP
        have hD : va_D (fun q : Nat => s.heap.size ≤ q) [(k0, .inl (cB, 32, .inl ek)), (k1, .inl (cI, 32, .inl mk)), (q0, .inr (0, [.ref k0, .ref x0, .ref y0])), (x0, .inl (cB, 16, .inl ue)), (y0, .inl (cB, 16, .inl eo)), (q1, .inr (1, [.ref k1, .ref x1, .ref y1])), (x1, .inl (cI, 16, .inl um)), (y1, .inl (cI, 16, .inl mo))] := hD
        refine lv_goto (tgt := 260) hx hb dL_law_234 (by decide) ?_
        refine W.widen (k := 8 + 104 * (i + 1)) (n := 134 + 456 * (i + 1)) (by omega) (by omega) ?_
        exact next ek ue eo mk um mo H locs ls (rk) (fun j hj => by rw [hum j hj, ro j hj, hue j hj]) (ro) (hP.sub [2, 0, 3, 4, 5, 1, 6, 7] rfl) (hD.sub [2, 0, 3, 4, 5, 1, 6, 7] (by decide) rfl) hS hl
      · refine lv_tableIn (off := 204) (tgt := 237) hx hb dL_law_33 (by decide) (by decide) (by decide) (by decide) ?_
        refine lv_aload_n hx hb dL_law_237 rfl (lv_at hl 1 rfl) ?_
        refine lv_aload_n hx hb dL_law_238 rfl (lv_at hl 0 rfl) ?_
        refine lv_iload_n hx hb dL_law_239 rfl (lv_at hl 3 rfl) ?_
        refine lv_iconst (v := 1) hx hb dL_law_240 (by decide) ?_
        refine lv_iadd hx hb dL_law_241 ?_
        refine sd_sld hx hb hX hbl hbA hS (k := 6 * i + 1) (nI_add (6 * i) 1) (by omega) (by omega) dL_law_242 ?_
        refine vp_callSi (va_runV (As := [.int (xs (6 * i + 1))]) (rest := []) ⟨hx, hb, hml, hown, hts⟩ (mt_dout l dC dI cB cI q0 k0 x0 y0 eo (xs (6 * i + 1))) (cwV 1 hts (lw_V q314 q315 q316 q16 q317) rfl rfl rfl (by decide +kernel) ⟨Nat.le_of_ble_eq_true rfl, Nat.le_of_ble_eq_true rfl⟩) (sd_purV (va_recv hK hP (ci := 0) (q0 := 0) rfl rfl) hK hV hS (hP.sub [0, 3] rfl)) rfl rfl hl.1 rfl (lv_room (Nat.le_of_ble_eq_true rfl)) dL_law_243 ⟨by show _ ≤ 600096; omega, by show _ ≤ 7301386; omega⟩).run (fun r1 hr1 => ?_)
        refine lv_aload_n hx hb dL_law_246 rfl (lv_at hl 2 rfl) ?_
        refine lv_aload_n hx hb dL_law_247 rfl (lv_at hl 0 rfl) ?_
        refine lv_iload_n hx hb dL_law_248 rfl (lv_at hl 3 rfl) ?_
        refine lv_iconst (v := 1) hx hb dL_law_249 (by decide) ?_
        refine lv_iadd hx hb dL_law_250 ?_
        refine sd_sld hx hb hX hbl hbA hS (k := 6 * i + 1) (nI_add (6 * i) 1) (by omega) (by omega) dL_law_251 ?_
        refine vp_callSi (va_runV (As := [.int (xs (6 * i + 1))]) (rest := [.int r1]) ⟨hx, hb, hml, hown, hts⟩ (mt_mout l dC dI cB cI q1 k1 x1 y1 mo (xs (6 * i + 1))) (cwV 1 hts (lw_V q378 q379 q380 q17 q381) rfl rfl rfl (by decide +kernel) ⟨Nat.le_of_ble_eq_true rfl, Nat.le_of_ble_eq_true rfl⟩) (sd_purV (va_recv hK hP (ci := 1) (q0 := 4) rfl rfl) hK hV hS (hP.sub [4, 7] rfl)) rfl rfl hl.1 rfl (lv_room (Nat.le_of_ble_eq_true rfl)) dL_law_252 ⟨by show _ ≤ 600096; omega, by show _ ≤ 7301386; omega⟩).run (fun r2 hr2 => ?_)
        refine lv_icmp_eq (tgt := 260) hx hb dL_law_255 (by decide) (fun _ => ?_) (fun h => absurd (by rw [hr1, hr2, ro _ (Nat.mod_lt _ (by decide))]) h)
        refine W.widen (k := 8 + 104 * (i + 1)) (n := 134 + 456 * (i + 1)) (by omega) (by omega) ?_
        exact next ek eb eo mk mb mo H locs ls (rk) (rb) (ro) (hP.sub [0, 1, 2, 3, 4, 5, 6, 7] rfl) (hD.sub [0, 1, 2, 3, 4, 5, 6, 7] (by decide) rfl) hS hl
      · refine lv_tableOut (tgt := 260) hx hb dL_law_33 (by decide) (by decide) ?_
        refine W.widen (k := 8 + 104 * (i + 1)) (n := 134 + 456 * (i + 1)) (by omega) (by omega) ?_
        exact next ek eb eo mk mb mo H locs ls (rk) (rb) (ro) (hP.sub [0, 1, 2, 3, 4, 5, 6, 7] rfl) (hD.sub [0, 1, 2, 3, 4, 5, 6, 7] (by decide) rfl) hS hl
      · refine lv_tableOut (tgt := 260) hx hb dL_law_33 (by decide) (by decide) ?_
        refine W.widen (k := 8 + 104 * (i + 1)) (n := 134 + 456 * (i + 1)) (by omega) (by omega) ?_
        exact next ek eb eo mk mb mo H locs ls (rk) (rb) (ro) (hP.sub [0, 1, 2, 3, 4, 5, 6, 7] rfl) (hD.sub [0, 1, 2, 3, 4, 5, 6, 7] (by decide) rfl) hS hl
    · skip
      refine lv_icmp_gt (tgt := 266) hx hb dL_law_24 (by decide) (fun _ => ?_) (fun h => absurd (sd_exit hL (by omega) hlt) h)
      refine lv_iconst (v := 1) hx hb dL_law_266 (by decide) ?_
      refine va_forget (fun q hq => hS.2.2 q hq) ?_
      refine W.widen (k := 600096) (n := 7301386) (by omega) (by omega) ?_
      exact lw_ret hx hb hr hlocks dL_law_267
end
section
set_option maxHeartbeats 4000000 in
set_option maxRecDepth 100000 in
/-- THE LAW, from its entry -/
theorem whole_start {p : Program} {e : Env} {s : State} {m : MethodId} {below : List Frame} {meth : Method} {c : Code} (l : Launch) (hflags : l.flags = flags0) {b L : Nat} {xs : Nat → Int32} (hL : L ≤ 288) (C0 : lw_At p s m meth c b L xs) : W p l e room_1 s m #[Value.ref b] below meth c s.heap [] 0 0 (lw_Z below #[Value.ref b] s) (entryFrame m ([Value.ref b] : List Value).toArray 4) := by
  obtain ⟨hx, hb, hr, hml, hown, hts0, hX, hbl, hlocks, hgv⟩ := id C0
  have hts : ∀ w ∈ lw_all, w.before #[Value.ref b] s = true := fun w h => hts0 w (lw_all_tbl h)
  have hA : ∀ q : Nat, s.heap.size ≤ q → (fun q : Nat => s.heap.size ≤ q) q := fun _ h => h
  obtain ⟨dC, dI, cB, cI, hK⟩ := sd_K0 hts0
  have hV : sd_V (fun q : Nat => s.heap.size ≤ q) s := sd_V0 (flat_of_before _ hgv) hts0 (fun a h => Nat.not_le.mpr h)
  have hS : va_S (fun q : Nat => s.heap.size ≤ q) s.heap s.heap [] := va_S.rf
  have hP : va_P (dC, dI) sd_cl [] s.heap := fun k q h => by simp at h
  have hD : va_D (fun q : Nat => s.heap.size ≤ q) [] := ⟨fun i j p q h => by simp at h, fun k q h => by simp at h⟩
  have hl := lv_entry ([.ref b]) (n := 4) (Nat.le_of_ble_eq_true rfl)
  rw [lg_entry_eq]
  generalize (lg_sl ([.ref b]) ++ List.replicate (4 - (lg_sl ([.ref b])).length) Slot.unset).toArray = ls at hl ⊢
  have hl : lv_has ls 4 [(0, .ref b)] := hl
  refine va_new (ci := 0) (fs := [.null, .null, .null]) (C := RX0) (T := TX0) (N := 3) hx hb hts in_X0 tyX0 tyX0_ok hown (hts _ q29) (hts _ q30) (hts _ q16) hK hP hD hS hA rfl (fun j hj => by rcases (show j = 0 ∨ j = 1 ∨ j = 2 by omega) with rfl | rfl | rfl <;> rfl) (Nat.le_of_ble_eq_true rfl) (Nat.le_of_ble_eq_true rfl) dL_law_0 (fun q0 H hP hD hS => ?_)
  have hP : va_P (dC, dI) sd_cl [(q0, .inr (0, [.null, .null, .null]))] H := hP
  have hD : va_D (fun q : Nat => s.heap.size ≤ q) [(q0, .inr (0, [.null, .null, .null]))] := hD
  refine lv_dup hx hb dL_law_3 rfl ?_
  have hPc := hP.sub (ws' := [(q0, .inr (0, [.null, .null, .null]))]) [0] rfl
  have hDc := hD.sub (ws' := [(q0, .inr (0, [.null, .null, .null]))]) [0] (by decide) rfl
  have hFc := va_free (wc := [(q0, .inr (0, [.null, .null, .null]))]) hD hS hA [0] rfl
  refine va_callv (va_runI (As := []) (rest := [.ref q0]) ⟨hx, hb, hml, hown, hts⟩ (mt_dinit l dC dI cB cI q0 H.size) (cwI 0 hts (lw_meth q33) rfl rfl rfl (hts _ q16) (hts _ q31) (hts _ q32) rfl (by decide +kernel) ⟨Nat.le_of_ble_eq_true rfl, Nat.le_of_ble_eq_true rfl⟩) (sd_preS hK hV hS hPc hDc hFc) rfl rfl hl.1 rfl (lv_room (Nat.le_of_ble_eq_true rfl)) dL_law_4 ⟨Nat.le_of_ble_eq_true rfl, Nat.le_of_ble_eq_true rfl⟩) hS (fun q _ h => hFc q h) hFc (fun u0 t H locs ht hvm _ hB hz1 hk1 hS => ?_)
  obtain ⟨hP1, hD1⟩ := hB
  rw [ht] at hP1
  obtain ⟨hP, hD⟩ := va_join (wr := []) (w1 := [(q0, .inr (0, [.ref u0.1, .ref u0.2.1, .ref u0.2.2])), (u0.1, .inl (cB, 32, .inl (fun _ => 0))), (u0.2.1, .inl (cB, 16, .inl (fun _ => 0))), (u0.2.2, .inl (cB, 16, .inl (fun _ => 0)))]) hP hD [0] [] rfl rfl (by decide) (by decide) hk1 hFc hP1 hD1
  have hP : va_P (dC, dI) sd_cl [(q0, .inr (0, [.ref u0.1, .ref u0.2.1, .ref u0.2.2])), (u0.1, .inl (cB, 32, .inl (fun _ => 0))), (u0.2.1, .inl (cB, 16, .inl (fun _ => 0))), (u0.2.2, .inl (cB, 16, .inl (fun _ => 0)))] H := hP
  have hD : va_D (fun q : Nat => s.heap.size ≤ q) [(q0, .inr (0, [.ref u0.1, .ref u0.2.1, .ref u0.2.2])), (u0.1, .inl (cB, 32, .inl (fun _ => 0))), (u0.2.1, .inl (cB, 16, .inl (fun _ => 0))), (u0.2.2, .inl (cB, 16, .inl (fun _ => 0)))] := hD
  refine lv_astore_n (lv' := [(1, .ref q0), (0, .ref b)]) hx hb dL_law_7 rfl hl (by decide) rfl (fun ls hl => ?_)
  refine va_new (ci := 1) (fs := [.null, .null, .null]) (C := RX1) (T := TX1) (N := 3) hx hb hts in_X1 tyX1 tyX1_ok hown (hts _ q318) (hts _ q319) (hts _ q17) hK hP hD hS hA rfl (fun j hj => by rcases (show j = 0 ∨ j = 1 ∨ j = 2 by omega) with rfl | rfl | rfl <;> rfl) (Nat.le_of_ble_eq_true rfl) (Nat.le_of_ble_eq_true rfl) dL_law_8 (fun q1 H hP hD hS => ?_)
  have hP : va_P (dC, dI) sd_cl [(q0, .inr (0, [.ref u0.1, .ref u0.2.1, .ref u0.2.2])), (u0.1, .inl (cB, 32, .inl (fun _ => 0))), (u0.2.1, .inl (cB, 16, .inl (fun _ => 0))), (u0.2.2, .inl (cB, 16, .inl (fun _ => 0))), (q1, .inr (1, [.null, .null, .null]))] H := hP
  have hD : va_D (fun q : Nat => s.heap.size ≤ q) [(q0, .inr (0, [.ref u0.1, .ref u0.2.1, .ref u0.2.2])), (u0.1, .inl (cB, 32, .inl (fun _ => 0))), (u0.2.1, .inl (cB, 16, .inl (fun _ => 0))), (u0.2.2, .inl (cB, 16, .inl (fun _ => 0))), (q1, .inr (1, [.null, .null, .null]))] := hD
  refine lv_dup hx hb dL_law_11 rfl ?_
  have hPc := hP.sub (ws' := [(q1, .inr (1, [.null, .null, .null]))]) [4] rfl
  have hDc := hD.sub (ws' := [(q1, .inr (1, [.null, .null, .null]))]) [4] (by decide) rfl
  have hFc := va_free (wc := [(q1, .inr (1, [.null, .null, .null]))]) hD hS hA [4] rfl
  refine va_callv (va_runI (As := []) (rest := [.ref q1]) ⟨hx, hb, hml, hown, hts⟩ (mt_minit l dC dI cB cI q1 H.size) (cwI 0 hts (lw_meth q322) rfl rfl rfl (hts _ q17) (hts _ q320) (hts _ q321) rfl (by decide +kernel) ⟨Nat.le_of_ble_eq_true rfl, Nat.le_of_ble_eq_true rfl⟩) (sd_preS hK hV hS hPc hDc hFc) rfl rfl hl.1 rfl (lv_room (Nat.le_of_ble_eq_true rfl)) dL_law_12 ⟨Nat.le_of_ble_eq_true rfl, Nat.le_of_ble_eq_true rfl⟩) hS (fun q _ h => hFc q h) hFc (fun u1 t H locs ht hvm _ hB hz1 hk1 hS => ?_)
  obtain ⟨hP1, hD1⟩ := hB
  rw [ht] at hP1
  obtain ⟨hP, hD⟩ := va_join (wr := [(q0, .inr (0, [.ref u0.1, .ref u0.2.1, .ref u0.2.2])), (u0.1, .inl (cB, 32, .inl (fun _ => 0))), (u0.2.1, .inl (cB, 16, .inl (fun _ => 0))), (u0.2.2, .inl (cB, 16, .inl (fun _ => 0)))]) (w1 := [(q1, .inr (1, [.ref u1.1, .ref u1.2.1, .ref u1.2.2])), (u1.1, .inl (cI, 32, .inl (fun _ => 0))), (u1.2.1, .inl (cI, 16, .inl (fun _ => 0))), (u1.2.2, .inl (cI, 16, .inl (fun _ => 0)))]) hP hD [4] [0, 1, 2, 3] rfl rfl (by decide) (by decide) hk1 hFc hP1 hD1
  have hP : va_P (dC, dI) sd_cl [(q0, .inr (0, [.ref u0.1, .ref u0.2.1, .ref u0.2.2])), (u0.1, .inl (cB, 32, .inl (fun _ => 0))), (u0.2.1, .inl (cB, 16, .inl (fun _ => 0))), (u0.2.2, .inl (cB, 16, .inl (fun _ => 0))), (q1, .inr (1, [.ref u1.1, .ref u1.2.1, .ref u1.2.2])), (u1.1, .inl (cI, 32, .inl (fun _ => 0))), (u1.2.1, .inl (cI, 16, .inl (fun _ => 0))), (u1.2.2, .inl (cI, 16, .inl (fun _ => 0)))] H := hP
  have hD : va_D (fun q : Nat => s.heap.size ≤ q) [(q0, .inr (0, [.ref u0.1, .ref u0.2.1, .ref u0.2.2])), (u0.1, .inl (cB, 32, .inl (fun _ => 0))), (u0.2.1, .inl (cB, 16, .inl (fun _ => 0))), (u0.2.2, .inl (cB, 16, .inl (fun _ => 0))), (q1, .inr (1, [.ref u1.1, .ref u1.2.1, .ref u1.2.2])), (u1.1, .inl (cI, 32, .inl (fun _ => 0))), (u1.2.1, .inl (cI, 16, .inl (fun _ => 0))), (u1.2.2, .inl (cI, 16, .inl (fun _ => 0)))] := hD
  refine lv_astore_n (lv' := [(2, .ref q1), (1, .ref q0), (0, .ref b)]) hx hb dL_law_15 rfl hl (by decide) rfl (fun ls hl => ?_)
  refine lv_iconst (v := 0) hx hb dL_law_16 (by decide) ?_
  refine lv_istore_n (lv' := [(3, .int 0), (2, .ref q1), (1, .ref q0), (0, .ref b)]) hx hb dL_law_17 rfl hl (by decide) rfl (fun ls hl => ?_)
  refine W.widen (k := 8 + 104 * 0) (n := 134 + 456 * 0) (by first | omega | (dsimp only; omega)) (by first | omega | (dsimp only; omega)) ?_
  exact law_loop hL C0 hK hV 48 0 _ _ _ _ _ _ H _ ls rfl (fun j _ => rfl) (fun j _ => rfl) (fun j _ => rfl) hP hD hS (lv_sub hl [3, 2, 1, 0] rfl)
set_option maxHeartbeats 4000000 in
theorem lw_walk (l : Launch) (hflags : l.flags = flags0) (b : Addr) (xs : List Int32) : MetFree l x (headSpec (Jvm.Cond.code x code maxLocals ret :: tables_1) room_1) (lw_P b xs) (fun _ _ _ _ _ => True) lw_Q := by
  refine MetFree.of_bodyS (code := code) (maxLocals := maxLocals) (ret := ret) (by decide) ?_ ?_
  · intro args s m h hn
    obtain ⟨meth, c, h1, h2, h3, h4, h5, h6, -, -⟩ := Cond.code_spec hn (atoms_spec (ws := Jvm.Cond.code x code maxLocals ret :: tables_1) h _ List.mem_cons_self)
    exact ⟨meth, c, h1, h2, h3, h4, h5, h6⟩
  · intro p e s m args below meth c s₁ B hml0 hP _
    obtain ⟨rfl, hx, hbd, hgv⟩ := hP
    obtain ⟨scr, harrAt, hlist, hof, hsmall⟩ := hx
    obtain ⟨hcb, hkn, -, -⟩ := State.arrayAt?_spec harrAt
    have hown : s.vm.findClass R_law = some m.cls := findClass_of_methodNamed B.named
    have hts0 : ∀ c ∈ (Jvm.Cond.code x code maxLocals ret :: tables_1), c.before #[Value.ref b] s = true := atoms_spec (ws := Jvm.Cond.code x code maxLocals ret :: tables_1) B.pre
    have hts : ∀ w ∈ lw_tbl, w.before #[Value.ref b] s = true := k2_hts_sels lw_privs (fun w hw => hts0 w (List.mem_cons_of_mem _ hw)) lw_privs_ok
    have hml : c.maxLocals = 4 := B.maxLocals_eq (hts0 _ List.mem_cons_self)
    have X₀ : Stand p l e room_1 s m #[Value.ref b] below meth c s₁ [] 0 0 := Stand.of_body B
    have hh0 : s₁.heap = s.heap := by rw [B.state]; rfl
    have hsz : scr.slots.size = xs.length := by rw [← Array.length_toList, hlist, List.length_map]
    have hval : ∀ j : Nat, j < xs.length → scr.slots[j]? = some (.int (xs.getD j 0)) := fun j hj => by
      rw [← Array.getElem?_toList, hlist]
      simp [hj]
    have hbl : b < s.heap.size := (Array.getElem?_eq_some_iff.mp hcb).1
    have hX : va_X b xs.length (fun j => xs.getD j 0) s s.heap := ⟨scr, hcb, hof, hkn, hsz, hval⟩
    have K : W p l e room_1 s m #[Value.ref b] below meth c s₁.heap [] 0 0 (lw_Z below #[Value.ref b] s) (entryFrame m ([Value.ref b] : List Value).toArray 4) := by
      rw [hh0]
      exact whole_start l hflags hbd ⟨B.exec, B.bytes, B.returns, hml, hown, hts, hX, hbl, B.notSynchronized, hgv⟩
    obtain ⟨t, a1, o, b1, b2, b3⟩ := K s₁ rfl X₀
    exact ⟨t, o, a1, b1, b2, b3⟩
theorem lw_pre_spec {args : Array Value} {s : State} (h : (Jvm.Cond.and given_1 narrow_1).before args s = true) (hr : rest_1_c.before args s = true) : ∃ (b : Addr) (xs : List Int32), lw_P b xs args s := by
  have hs := flat_of_before _ h
  have hq := flat_of_before _ hr
  have hc : (Cond.count 1).before args s = true := hs _ (by decide +kernel)
  have harr : (Cond.arrayOf (.arg 0) .int).before args s = true := hs _ (by decide +kernel)
  have hle : (Cond.le (.length (.arg 0)) (.int 288)).before args s = true := hs _ (by decide +kernel)
  have hlen : (Cond.isInt (.length (.arg 0))).before args s = true := hq _ (by decide +kernel)
  have hall : (Cond.all (.arg 0) (.isInt (.elem (.arg 0) (.index 0)))).before args s = true := hq _ (by decide +kernel)
  obtain ⟨b, xs, hb, hx⟩ := State.ints_of_pre rfl harr hlen hall
  have hsm : xs.length < 2 ^ 31 := hx.choose_spec.2.2.2
  have hev : (Term.length (.arg 0)).eval args s none [] s = some (.int xs.length.toInt32) := hx.length_eval hb
  have hv := Cond.le_ints hev (show (Term.int 288).eval args s none [] s = some (.int 288) from rfl)
  have hd : xs.length.toInt32 ≤ 288 := by
    simpa [Cond.before, Cond.holds, hv] using hle
  have hN : xs.length ≤ 288 := (Int32.ofNat_le_ofNat hsm (by decide)).mp (show Int32.ofNat xs.length ≤ Int32.ofNat 288 from hd)
  exact ⟨b, xs, Cond.one_arg hc (show args[0]? = some (.ref b) from hb), hx, hN, h⟩
theorem lw_comes (l : Launch) (hflags : l.flags = flags0) : Comes l x (Jvm.Cond.code x code maxLocals ret :: tables_1) room_1 (fun tb e args s => Calls_1 tb e args s ∧ rest_1 tb e args s ∧ Pre_1 tb e args s)
    (fun _ _ args s o t => lw_Q args s o t) := by
  intro p e ha hc hk s m args below hf hfit hheap happ hpre
  obtain ⟨b, xs, hP⟩ := lw_pre_spec hpre.2.2 hpre.2.1
  obtain ⟨k, o, h1, h2, h3, hQ⟩ := lw_walk l hflags b xs p e ha hc hk s m args below hf ((Spec.applies_iff_loose hf).mp happ).1 hP trivial
  exact ⟨k, o, h1, h2, h3, hQ⟩
theorem lw_frame {s t : State} {o : Outcome} {args : Array Value} (h : Framed s o t [] 600096 7301386) :
    Framed s o t (fieldLocs frame_1_writes args s ++ arrayLocs frame_1_arrays args s ++ staticLocs frame_1_statics s) 600096 7301386 := h
theorem lw_limb (L : Cond) (hL : ∀ (args : Array Value) (s t : State), L.after args s (.returned (some (.int 1))) t = true) :
    ArmFor flags0 classFile x code maxLocals ret World_1 tables_1 room_1 Calls_1 rest_1 Pre_1
      (fun tb e a s o t => postC L tb e a s o t ∧ Framed s o t (fieldLocs frame_1_writes a s ++ arrayLocs frame_1_arrays a s ++ staticLocs frame_1_statics s) 600096 7301386) := by
  intro l hflags _ _ p e ha hc hk s m args below hf hfit hheap happ hpre
  obtain ⟨k, o, h1, h2, h3, rfl, hF⟩ := lw_comes l hflags p e ha hc hk s m args below hf hfit hheap happ hpre
  exact ⟨k, _, h1, h2, h3, hL args s _, lw_frame hF⟩
theorem i_vc : Claimed_1_1 ∧ Claimed_1_2 := ⟨lw_limb limb_1_1 (fun args s t => by simp [limb_1_1, Cond.after, Cond.holds, Cond.value]), lw_limb limb_1_2 (fun args s t => Cond.after_iff.mpr (by
  first | (rw [show limb_1_2 = Cond.eq .result (.int 1) from rfl, Cond.eq_ints (x := 1) (y := 1) rfl rfl]; simp; done) | (simp [limb_1_2, Cond.value, Term.eval]; done)))⟩
end
