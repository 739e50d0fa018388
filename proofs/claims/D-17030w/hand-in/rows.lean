section
-- ===== PART A: goes FIRST, ahead of the names: the tables' words, and 'selects' of the private methods out of them =====
/-- a private method of a class that the tables say can be made, by its rows of tables_1 -/
def lw_okq (q : MethodName × Nat) : Prop := (q.1.cls ≠ "java/lang/invoke/MethodHandle" ∧ q.1.cls ≠ "java/lang/invoke/VarHandle") ∧ Cond.instantiable q.1.cls q.2 ∈ tables_1 ∧ Cond.privateMethod q.1 ∈ tables_1 ∧ Cond.instanceMethod q.1 ∈ tables_1
def lw_privs : List (MethodName × Nat) := []
def lw_tbl : List Cond := k2_sels lw_privs ++ tables_1
theorem lw_privs_ok : ∀ q ∈ lw_privs, lw_okq q := fun _ h => absurd h List.not_mem_nil
-- ===== ONE list of words for every method: the tables' words that hold all through a run =====
def lw_all : List Cond := lw_tbl.filter goodWord
/-- a word of the tables by its place: claim/WORDS.tsv -/
theorem lw_w {w : Cond} (i : Nat) (h : lw_tbl[i]? = some w) (g : goodWord w = true) : w ∈ lw_all := List.mem_filter.mpr ⟨List.mem_of_getElem? h, g⟩
theorem lw_all_tbl {w : Cond} (h : w ∈ lw_all) : w ∈ lw_tbl := (List.mem_filter.mp h).1
theorem lw_self : GoodIn lw_all lw_all := fun w h => ⟨h, good_of_word (List.mem_filter.mp h).2⟩
/-- a class's field words, by their places -/
theorem lw_in (ws : List Cond) (ps : List Nat) (hp : ws = ps.filterMap (fun i => lw_tbl[i]?)) (hg : ws.all goodWord = true) : ∀ w ∈ ws, w ∈ lw_all := by
  intro w h
  have h1 := List.all_eq_true.mp hg w h
  rw [hp] at h
  obtain ⟨i, -, hi⟩ := List.mem_filterMap.mp h
  exact lw_w i hi h1
/-- the words of a contract for the method y with code b, L locals, answer r -/
abbrev ws_ (y : MethodName) (b : ByteArray) (L : Nat) (r : Option FieldType) : List Cond := Cond.code y b L r :: lw_all
theorem lw_meth {y : MethodName} {b : ByteArray} {L : Nat} {r : Option FieldType} (h : Cond.code y b L r ∈ lw_all) : GoodIn lw_all (ws_ y b L r) := by
  intro w hw
  rcases List.mem_cons.mp hw with e | e
  · rw [e]
    exact lw_self _ h
  · exact lw_self _ e
theorem lw_app {a c : List Cond} (ha : ∀ w ∈ a, w ∈ lw_all) (hc : GoodIn lw_all c) : GoodIn lw_all (a ++ c) := by
  intro w hw
  rcases List.mem_append.mp hw with e | e
  · exact lw_self w (ha w e)
  · exact hc w e
/-- what a call through an object asks: cwV n hts (lw_V ..) -/
theorem lw_V {own : String} {idx : Nat} {C : String} {y : MethodName} {b : ByteArray} {L : Nat} {r : Option FieldType} (h1 : Cond.methodLink own idx y ∈ lw_all) (h2 : Cond.instanceMethod y ∈ lw_all) (h3 : Cond.selects C y y ∈ lw_all) (h4 : Cond.initialized C ∈ lw_all) (h5 : Cond.code y b L r ∈ lw_all) : GoodIn lw_all (wsV own idx C y (ws_ y b L r)) := by
  refine lw_app ?_ (lw_meth h5)
  intro w hw
  simp only [List.mem_cons, List.not_mem_nil, or_false] at hw
  rcases hw with e | e | e | e
  · rw [e]; exact h1
  · rw [e]; exact h2
  · rw [e]; exact h3
  · rw [e]; exact h4
/-- what a static call asks: va_cwS n hts (lw_S ..) -/
theorem lw_S {own : String} {idx : Nat} {y : MethodName} {b : ByteArray} {L : Nat} {r : Option FieldType} (h1 : Cond.methodLink own idx y ∈ lw_all) (h2 : Cond.static y ∈ lw_all) (h3 : Cond.initialized y.cls ∈ lw_all) (h4 : Cond.code y b L r ∈ lw_all) : GoodIn lw_all (va_wsS own idx y (ws_ y b L r)) := by
  refine lw_app ?_ (lw_meth h4)
  intro w hw
  simp only [List.mem_cons, List.not_mem_nil, or_false] at hw
  rcases hw with e | e | e
  · rw [e]; exact h1
  · rw [e]; exact h2
  · rw [e]; exact h3
/-- the words of a contract for a method WITH HANDLERS (hh: its table) -/
abbrev wsW_ (y : MethodName) (b : ByteArray) (L : Nat) (r : Option FieldType) (hh : List (Nat × Nat × Nat × Nat)) : List Cond := Cond.codeWith y b L r hh :: lw_all
theorem lw_methW {y : MethodName} {b : ByteArray} {L : Nat} {r : Option FieldType} {hh : List (Nat × Nat × Nat × Nat)} (h : Cond.codeWith y b L r hh ∈ lw_all) : GoodIn lw_all (wsW_ y b L r hh) := by
  intro w hw
  rcases List.mem_cons.mp hw with e | e
  · rw [e]
    exact lw_self _ h
  · exact lw_self _ e
/-- any list of words by their places (lw_in), good -/
theorem lw_good {ws : List Cond} (h : ∀ w ∈ ws, w ∈ lw_all) : GoodIn lw_all ws := fun w hw => lw_self w (h w hw)
/-- what a call of a method with handlers asks: vx_cwVW n hts (lw_VW ..), vx_cwSW n hts (lw_SW ..) -/
theorem lw_VW {own : String} {idx : Nat} {C : String} {y : MethodName} {b : ByteArray} {L : Nat} {r : Option FieldType} {hh : List (Nat × Nat × Nat × Nat)} (h1 : Cond.methodLink own idx y ∈ lw_all) (h2 : Cond.instanceMethod y ∈ lw_all) (h3 : Cond.selects C y y ∈ lw_all) (h4 : Cond.initialized C ∈ lw_all) (h5 : Cond.codeWith y b L r hh ∈ lw_all) : GoodIn lw_all (wsV own idx C y (wsW_ y b L r hh)) := by
  refine lw_app ?_ (lw_methW h5)
  intro w hw
  simp only [List.mem_cons, List.not_mem_nil, or_false] at hw
  rcases hw with e | e | e | e
  · rw [e]; exact h1
  · rw [e]; exact h2
  · rw [e]; exact h3
  · rw [e]; exact h4
theorem lw_SW {own : String} {idx : Nat} {y : MethodName} {b : ByteArray} {L : Nat} {r : Option FieldType} {hh : List (Nat × Nat × Nat × Nat)} (h1 : Cond.methodLink own idx y ∈ lw_all) (h2 : Cond.static y ∈ lw_all) (h3 : Cond.initialized y.cls ∈ lw_all) (h4 : Cond.codeWith y b L r hh ∈ lw_all) : GoodIn lw_all (va_wsS own idx y (wsW_ y b L r hh)) := by
  refine lw_app ?_ (lw_methW h4)
  intro w hw
  simp only [List.mem_cons, List.not_mem_nil, or_false] at hw
  rcases hw with e | e | e
  · rw [e]; exact h1
  · rw [e]; exact h2
  · rw [e]; exact h3
/-- a word by its place in its run of the tables -/
theorem lw_at {r : List Cond} (hr : ∀ w ∈ r, w ∈ lw_tbl) {w : Cond} (i : Nat) (h : r[i]? = some w) : w ∈ lw_tbl := hr w (List.mem_of_getElem? h)
theorem lw_g {w : Cond} (h : w ∈ lw_tbl) (g : goodWord w = true) : w ∈ lw_all := List.mem_filter.mpr ⟨h, g⟩
theorem lw_ms : ∀ w ∈ k2_sels lw_privs, w ∈ lw_tbl := fun w h => show w ∈ k2_sels lw_privs ++ tables_1 from List.mem_append_left _ h
theorem lw_m0 : ∀ w ∈ tables_1, w ∈ lw_tbl := fun w h => show w ∈ k2_sels lw_privs ++ tables_1 from List.mem_append_right (k2_sels lw_privs) h
-- ===== end of PART A; then your names; then what follows =====
end
section
/-! names: classes, methods, decode rows, the tables' words by their places (printed by gen/gen_names.py) -/
set_option maxRecDepth 100000
def RJ0 : String := "java/lang/Long"
abbrev cJ0_compare : ByteArray := prog_6_method_42_code
def yJ0_compare : MethodName := ⟨RJ0, "compare", "(JJ)I"⟩
theorem dJ0_compare_0 : decode cJ0_compare 0 = .ok (.lload_n 0, 1) := by decide +kernel
theorem dJ0_compare_1 : decode cJ0_compare 1 = .ok (.lload_n 2, 1) := by decide +kernel
theorem dJ0_compare_2 : decode cJ0_compare 2 = .ok (.lcmp, 1) := by decide +kernel
theorem dJ0_compare_3 : decode cJ0_compare 3 = .ok (.ifCond .ge 7, 3) := by decide +kernel
theorem dJ0_compare_6 : decode cJ0_compare 6 = .ok (.iconst (-1), 1) := by decide +kernel
theorem dJ0_compare_7 : decode cJ0_compare 7 = .ok (.goto 14, 3) := by decide +kernel
theorem dJ0_compare_10 : decode cJ0_compare 10 = .ok (.lload_n 0, 1) := by decide +kernel
theorem dJ0_compare_11 : decode cJ0_compare 11 = .ok (.lload_n 2, 1) := by decide +kernel
theorem dJ0_compare_12 : decode cJ0_compare 12 = .ok (.lcmp, 1) := by decide +kernel
theorem dJ0_compare_13 : decode cJ0_compare 13 = .ok (.ifCond .ne 7, 3) := by decide +kernel
theorem dJ0_compare_16 : decode cJ0_compare 16 = .ok (.iconst 0, 1) := by decide +kernel
theorem dJ0_compare_17 : decode cJ0_compare 17 = .ok (.goto 4, 3) := by decide +kernel
theorem dJ0_compare_20 : decode cJ0_compare 20 = .ok (.iconst 1, 1) := by decide +kernel
theorem dJ0_compare_21 : decode cJ0_compare 21 = .ok (.ireturn, 1) := by decide +kernel
theorem q5 : (Jvm.Cond.initialized "java/lang/Long") ∈ lw_all := lw_g (lw_at lw_m0 5 rfl) rfl
theorem q38 : (Jvm.Cond.static ({ cls := "java/lang/Long", name := "compare", desc := "(JJ)I" } : Jvm.MethodName)) ∈ lw_all := lw_g (lw_at lw_m0 38 rfl) rfl
theorem q39 : (Jvm.Cond.code ({ cls := "java/lang/Long", name := "compare", desc := "(JJ)I" } : Jvm.MethodName) prog_6_method_42_code (4 : Nat) (Option.some Jvm.ClassFile.FieldType.int)) ∈ lw_all := lw_g (lw_at lw_m0 39 rfl) rfl
def RJ1 : String := "java/lang/Object"
abbrev cJ1_init : ByteArray := object_method_1_code
def yJ1_init : MethodName := ⟨RJ1, "<init>", "()V"⟩
theorem dJ1_init_0 : decode cJ1_init 0 = .ok (.return_, 1) := by decide +kernel
theorem q12 : (Jvm.Cond.instanceMethod ({ cls := "java/lang/Object", name := "<init>", desc := "()V" } : Jvm.MethodName)) ∈ lw_all := lw_g (lw_at lw_m0 12 rfl) rfl
theorem q13 : (Jvm.Cond.code ({ cls := "java/lang/Object", name := "<init>", desc := "()V" } : Jvm.MethodName) object_method_1_code (1 : Nat) (Option.none : Option Jvm.ClassFile.FieldType)) ∈ lw_all := lw_g (lw_at lw_m0 13 rfl) rfl
def RX3 : String := "Longs"
abbrev cX3_compare : ByteArray := prog_1_method_1_code
def yX3_compare : MethodName := ⟨RX3, "compare", "(JJ)I"⟩
theorem dX3_compare_0 : decode cX3_compare 0 = .ok (.lload_n 0, 1) := by decide +kernel
theorem dX3_compare_1 : decode cX3_compare 1 = .ok (.lload_n 2, 1) := by decide +kernel
theorem dX3_compare_2 : decode cX3_compare 2 = .ok (.invokestatic 1, 3) := by decide +kernel
theorem dX3_compare_5 : decode cX3_compare 5 = .ok (.ireturn, 1) := by decide +kernel
theorem q4 : (Jvm.Cond.initialized "Longs") ∈ lw_all := lw_g (lw_at lw_m0 4 rfl) rfl
theorem q35 : (Jvm.Cond.static ({ cls := "Longs", name := "compare", desc := "(JJ)I" } : Jvm.MethodName)) ∈ lw_all := lw_g (lw_at lw_m0 35 rfl) rfl
theorem q36 : (Jvm.Cond.code ({ cls := "Longs", name := "compare", desc := "(JJ)I" } : Jvm.MethodName) prog_1_method_1_code (4 : Nat) (Option.some Jvm.ClassFile.FieldType.int)) ∈ lw_all := lw_g (lw_at lw_m0 36 rfl) rfl
theorem q37 : (Jvm.Cond.methodLink "Longs" (1 : Nat) ({ cls := "java/lang/Long", name := "compare", desc := "(JJ)I" } : Jvm.MethodName)) ∈ lw_all := lw_g (lw_at lw_m0 37 rfl) rfl
def RX2 : String := "UnsignedLongs"
abbrev cX2_divide : ByteArray := prog_5_method_3_code
def yX2_divide : MethodName := ⟨RX2, "divide", "(JJ)J"⟩
theorem dX2_divide_0 : decode cX2_divide 0 = .ok (.lload_n 2, 1) := by decide +kernel
theorem dX2_divide_1 : decode cX2_divide 1 = .ok (.lconst 0, 1) := by decide +kernel
theorem dX2_divide_2 : decode cX2_divide 2 = .ok (.lcmp, 1) := by decide +kernel
theorem dX2_divide_3 : decode cX2_divide 3 = .ok (.ifCond .ge 15, 3) := by decide +kernel
theorem dX2_divide_6 : decode cX2_divide 6 = .ok (.lload_n 0, 1) := by decide +kernel
theorem dX2_divide_7 : decode cX2_divide 7 = .ok (.lload_n 2, 1) := by decide +kernel
theorem dX2_divide_8 : decode cX2_divide 8 = .ok (.invokestatic 17, 3) := by decide +kernel
theorem dX2_divide_11 : decode cX2_divide 11 = .ok (.ifCond .ge 5, 3) := by decide +kernel
theorem dX2_divide_14 : decode cX2_divide 14 = .ok (.lconst 0, 1) := by decide +kernel
theorem dX2_divide_15 : decode cX2_divide 15 = .ok (.lreturn, 1) := by decide +kernel
theorem dX2_divide_16 : decode cX2_divide 16 = .ok (.lconst 1, 1) := by decide +kernel
theorem dX2_divide_17 : decode cX2_divide 17 = .ok (.lreturn, 1) := by decide +kernel
theorem dX2_divide_18 : decode cX2_divide 18 = .ok (.lload_n 0, 1) := by decide +kernel
theorem dX2_divide_19 : decode cX2_divide 19 = .ok (.lconst 0, 1) := by decide +kernel
theorem dX2_divide_20 : decode cX2_divide 20 = .ok (.lcmp, 1) := by decide +kernel
theorem dX2_divide_21 : decode cX2_divide 21 = .ok (.ifCond .lt 7, 3) := by decide +kernel
theorem dX2_divide_24 : decode cX2_divide 24 = .ok (.lload_n 0, 1) := by decide +kernel
theorem dX2_divide_25 : decode cX2_divide 25 = .ok (.lload_n 2, 1) := by decide +kernel
theorem dX2_divide_26 : decode cX2_divide 26 = .ok (.ldiv, 1) := by decide +kernel
theorem dX2_divide_27 : decode cX2_divide 27 = .ok (.lreturn, 1) := by decide +kernel
theorem dX2_divide_28 : decode cX2_divide 28 = .ok (.lload_n 0, 1) := by decide +kernel
theorem dX2_divide_29 : decode cX2_divide 29 = .ok (.iconst 1, 1) := by decide +kernel
theorem dX2_divide_30 : decode cX2_divide 30 = .ok (.lushr, 1) := by decide +kernel
theorem dX2_divide_31 : decode cX2_divide 31 = .ok (.lload_n 2, 1) := by decide +kernel
theorem dX2_divide_32 : decode cX2_divide 32 = .ok (.ldiv, 1) := by decide +kernel
theorem dX2_divide_33 : decode cX2_divide 33 = .ok (.iconst 1, 1) := by decide +kernel
theorem dX2_divide_34 : decode cX2_divide 34 = .ok (.lshl, 1) := by decide +kernel
theorem dX2_divide_35 : decode cX2_divide 35 = .ok (.lstore 4, 2) := by decide +kernel
theorem dX2_divide_37 : decode cX2_divide 37 = .ok (.lload_n 0, 1) := by decide +kernel
theorem dX2_divide_38 : decode cX2_divide 38 = .ok (.lload 4, 2) := by decide +kernel
theorem dX2_divide_40 : decode cX2_divide 40 = .ok (.lload_n 2, 1) := by decide +kernel
theorem dX2_divide_41 : decode cX2_divide 41 = .ok (.lmul, 1) := by decide +kernel
theorem dX2_divide_42 : decode cX2_divide 42 = .ok (.lsub, 1) := by decide +kernel
theorem dX2_divide_43 : decode cX2_divide 43 = .ok (.lstore 6, 2) := by decide +kernel
theorem dX2_divide_45 : decode cX2_divide 45 = .ok (.lload 4, 2) := by decide +kernel
theorem dX2_divide_47 : decode cX2_divide 47 = .ok (.lload 6, 2) := by decide +kernel
theorem dX2_divide_49 : decode cX2_divide 49 = .ok (.lload_n 2, 1) := by decide +kernel
theorem dX2_divide_50 : decode cX2_divide 50 = .ok (.invokestatic 17, 3) := by decide +kernel
theorem dX2_divide_53 : decode cX2_divide 53 = .ok (.ifCond .lt 7, 3) := by decide +kernel
theorem dX2_divide_56 : decode cX2_divide 56 = .ok (.iconst 1, 1) := by decide +kernel
theorem dX2_divide_57 : decode cX2_divide 57 = .ok (.goto 4, 3) := by decide +kernel
theorem dX2_divide_60 : decode cX2_divide 60 = .ok (.iconst 0, 1) := by decide +kernel
theorem dX2_divide_61 : decode cX2_divide 61 = .ok (.i2l, 1) := by decide +kernel
theorem dX2_divide_62 : decode cX2_divide 62 = .ok (.ladd, 1) := by decide +kernel
theorem dX2_divide_63 : decode cX2_divide 63 = .ok (.lreturn, 1) := by decide +kernel
abbrev cX2_compare : ByteArray := prog_5_method_2_code
def yX2_compare : MethodName := ⟨RX2, "compare", "(JJ)I"⟩
theorem dX2_compare_0 : decode cX2_compare 0 = .ok (.lload_n 0, 1) := by decide +kernel
theorem dX2_compare_1 : decode cX2_compare 1 = .ok (.invokestatic 5, 3) := by decide +kernel
theorem dX2_compare_4 : decode cX2_compare 4 = .ok (.lload_n 2, 1) := by decide +kernel
theorem dX2_compare_5 : decode cX2_compare 5 = .ok (.invokestatic 5, 3) := by decide +kernel
theorem dX2_compare_8 : decode cX2_compare 8 = .ok (.invokestatic 11, 3) := by decide +kernel
theorem dX2_compare_11 : decode cX2_compare 11 = .ok (.ireturn, 1) := by decide +kernel
abbrev cX2_flip : ByteArray := prog_5_method_1_code
def yX2_flip : MethodName := ⟨RX2, "flip", "(J)J"⟩
theorem dX2_flip_0 : decode cX2_flip 0 = .ok (.lload_n 0, 1) := by decide +kernel
theorem dX2_flip_1 : decode cX2_flip 1 = .ok (.ldc2_w 3, 3) := by decide +kernel
theorem dX2_flip_4 : decode cX2_flip 4 = .ok (.lxor, 1) := by decide +kernel
theorem dX2_flip_5 : decode cX2_flip 5 = .ok (.lreturn, 1) := by decide +kernel
abbrev cX2_remainder : ByteArray := prog_5_method_4_code
def yX2_remainder : MethodName := ⟨RX2, "remainder", "(JJ)J"⟩
theorem dX2_remainder_0 : decode cX2_remainder 0 = .ok (.lload_n 2, 1) := by decide +kernel
theorem dX2_remainder_1 : decode cX2_remainder 1 = .ok (.lconst 0, 1) := by decide +kernel
theorem dX2_remainder_2 : decode cX2_remainder 2 = .ok (.lcmp, 1) := by decide +kernel
theorem dX2_remainder_3 : decode cX2_remainder 3 = .ok (.ifCond .ge 17, 3) := by decide +kernel
theorem dX2_remainder_6 : decode cX2_remainder 6 = .ok (.lload_n 0, 1) := by decide +kernel
theorem dX2_remainder_7 : decode cX2_remainder 7 = .ok (.lload_n 2, 1) := by decide +kernel
theorem dX2_remainder_8 : decode cX2_remainder 8 = .ok (.invokestatic 17, 3) := by decide +kernel
theorem dX2_remainder_11 : decode cX2_remainder 11 = .ok (.ifCond .ge 5, 3) := by decide +kernel
theorem dX2_remainder_14 : decode cX2_remainder 14 = .ok (.lload_n 0, 1) := by decide +kernel
theorem dX2_remainder_15 : decode cX2_remainder 15 = .ok (.lreturn, 1) := by decide +kernel
theorem dX2_remainder_16 : decode cX2_remainder 16 = .ok (.lload_n 0, 1) := by decide +kernel
theorem dX2_remainder_17 : decode cX2_remainder 17 = .ok (.lload_n 2, 1) := by decide +kernel
theorem dX2_remainder_18 : decode cX2_remainder 18 = .ok (.lsub, 1) := by decide +kernel
theorem dX2_remainder_19 : decode cX2_remainder 19 = .ok (.lreturn, 1) := by decide +kernel
theorem dX2_remainder_20 : decode cX2_remainder 20 = .ok (.lload_n 0, 1) := by decide +kernel
theorem dX2_remainder_21 : decode cX2_remainder 21 = .ok (.lconst 0, 1) := by decide +kernel
theorem dX2_remainder_22 : decode cX2_remainder 22 = .ok (.lcmp, 1) := by decide +kernel
theorem dX2_remainder_23 : decode cX2_remainder 23 = .ok (.ifCond .lt 7, 3) := by decide +kernel
theorem dX2_remainder_26 : decode cX2_remainder 26 = .ok (.lload_n 0, 1) := by decide +kernel
theorem dX2_remainder_27 : decode cX2_remainder 27 = .ok (.lload_n 2, 1) := by decide +kernel
theorem dX2_remainder_28 : decode cX2_remainder 28 = .ok (.lrem, 1) := by decide +kernel
theorem dX2_remainder_29 : decode cX2_remainder 29 = .ok (.lreturn, 1) := by decide +kernel
theorem dX2_remainder_30 : decode cX2_remainder 30 = .ok (.lload_n 0, 1) := by decide +kernel
theorem dX2_remainder_31 : decode cX2_remainder 31 = .ok (.iconst 1, 1) := by decide +kernel
theorem dX2_remainder_32 : decode cX2_remainder 32 = .ok (.lushr, 1) := by decide +kernel
theorem dX2_remainder_33 : decode cX2_remainder 33 = .ok (.lload_n 2, 1) := by decide +kernel
theorem dX2_remainder_34 : decode cX2_remainder 34 = .ok (.ldiv, 1) := by decide +kernel
theorem dX2_remainder_35 : decode cX2_remainder 35 = .ok (.iconst 1, 1) := by decide +kernel
theorem dX2_remainder_36 : decode cX2_remainder 36 = .ok (.lshl, 1) := by decide +kernel
theorem dX2_remainder_37 : decode cX2_remainder 37 = .ok (.lstore 4, 2) := by decide +kernel
theorem dX2_remainder_39 : decode cX2_remainder 39 = .ok (.lload_n 0, 1) := by decide +kernel
theorem dX2_remainder_40 : decode cX2_remainder 40 = .ok (.lload 4, 2) := by decide +kernel
theorem dX2_remainder_42 : decode cX2_remainder 42 = .ok (.lload_n 2, 1) := by decide +kernel
theorem dX2_remainder_43 : decode cX2_remainder 43 = .ok (.lmul, 1) := by decide +kernel
theorem dX2_remainder_44 : decode cX2_remainder 44 = .ok (.lsub, 1) := by decide +kernel
theorem dX2_remainder_45 : decode cX2_remainder 45 = .ok (.lstore 6, 2) := by decide +kernel
theorem dX2_remainder_47 : decode cX2_remainder 47 = .ok (.lload 6, 2) := by decide +kernel
theorem dX2_remainder_49 : decode cX2_remainder 49 = .ok (.lload 6, 2) := by decide +kernel
theorem dX2_remainder_51 : decode cX2_remainder 51 = .ok (.lload_n 2, 1) := by decide +kernel
theorem dX2_remainder_52 : decode cX2_remainder 52 = .ok (.invokestatic 17, 3) := by decide +kernel
theorem dX2_remainder_55 : decode cX2_remainder 55 = .ok (.ifCond .lt 7, 3) := by decide +kernel
theorem dX2_remainder_58 : decode cX2_remainder 58 = .ok (.lload_n 2, 1) := by decide +kernel
theorem dX2_remainder_59 : decode cX2_remainder 59 = .ok (.goto 4, 3) := by decide +kernel
theorem dX2_remainder_62 : decode cX2_remainder 62 = .ok (.lconst 0, 1) := by decide +kernel
theorem dX2_remainder_63 : decode cX2_remainder 63 = .ok (.lsub, 1) := by decide +kernel
theorem dX2_remainder_64 : decode cX2_remainder 64 = .ok (.lreturn, 1) := by decide +kernel
theorem q3 : (Jvm.Cond.initialized "UnsignedLongs") ∈ lw_all := lw_g (lw_at lw_m0 3 rfl) rfl
theorem q25 : (Jvm.Cond.static ({ cls := "UnsignedLongs", name := "divide", desc := "(JJ)J" } : Jvm.MethodName)) ∈ lw_all := lw_g (lw_at lw_m0 25 rfl) rfl
theorem q26 : (Jvm.Cond.code ({ cls := "UnsignedLongs", name := "divide", desc := "(JJ)J" } : Jvm.MethodName) prog_5_method_3_code (8 : Nat) (Option.some Jvm.ClassFile.FieldType.long)) ∈ lw_all := lw_g (lw_at lw_m0 26 rfl) rfl
theorem q27 : (Jvm.Cond.methodLink "UnsignedLongs" (17 : Nat) ({ cls := "UnsignedLongs", name := "compare", desc := "(JJ)I" } : Jvm.MethodName)) ∈ lw_all := lw_g (lw_at lw_m0 27 rfl) rfl
theorem q28 : (Jvm.Cond.static ({ cls := "UnsignedLongs", name := "compare", desc := "(JJ)I" } : Jvm.MethodName)) ∈ lw_all := lw_g (lw_at lw_m0 28 rfl) rfl
theorem q29 : (Jvm.Cond.code ({ cls := "UnsignedLongs", name := "compare", desc := "(JJ)I" } : Jvm.MethodName) prog_5_method_2_code (4 : Nat) (Option.some Jvm.ClassFile.FieldType.int)) ∈ lw_all := lw_g (lw_at lw_m0 29 rfl) rfl
theorem q30 : (Jvm.Cond.methodLink "UnsignedLongs" (5 : Nat) ({ cls := "UnsignedLongs", name := "flip", desc := "(J)J" } : Jvm.MethodName)) ∈ lw_all := lw_g (lw_at lw_m0 30 rfl) rfl
theorem q31 : (Jvm.Cond.static ({ cls := "UnsignedLongs", name := "flip", desc := "(J)J" } : Jvm.MethodName)) ∈ lw_all := lw_g (lw_at lw_m0 31 rfl) rfl
theorem q32 : (Jvm.Cond.code ({ cls := "UnsignedLongs", name := "flip", desc := "(J)J" } : Jvm.MethodName) prog_5_method_1_code (2 : Nat) (Option.some Jvm.ClassFile.FieldType.long)) ∈ lw_all := lw_g (lw_at lw_m0 32 rfl) rfl
theorem q33 : (Jvm.Cond.constantLong "UnsignedLongs" (3 : Nat) (-9223372036854775808 : Int64)) ∈ lw_all := lw_g (lw_at lw_m0 33 rfl) rfl
theorem q34 : (Jvm.Cond.methodLink "UnsignedLongs" (11 : Nat) ({ cls := "Longs", name := "compare", desc := "(JJ)I" } : Jvm.MethodName)) ∈ lw_all := lw_g (lw_at lw_m0 34 rfl) rfl
theorem q45 : (Jvm.Cond.static ({ cls := "UnsignedLongs", name := "remainder", desc := "(JJ)J" } : Jvm.MethodName)) ∈ lw_all := lw_g (lw_at lw_m0 45 rfl) rfl
theorem q46 : (Jvm.Cond.code ({ cls := "UnsignedLongs", name := "remainder", desc := "(JJ)J" } : Jvm.MethodName) prog_5_method_4_code (8 : Nat) (Option.some Jvm.ClassFile.FieldType.long)) ∈ lw_all := lw_g (lw_at lw_m0 46 rfl) rfl
def RX0 : String := "UnsignedDesk"
abbrev cX0_init : ByteArray := prog_2_method_1_code
def yX0_init : MethodName := ⟨RX0, "<init>", "()V"⟩
theorem dX0_init_0 : decode cX0_init 0 = .ok (.aload_n 0, 1) := by decide +kernel
theorem dX0_init_1 : decode cX0_init 1 = .ok (.invokespecial 1, 3) := by decide +kernel
theorem dX0_init_4 : decode cX0_init 4 = .ok (.return_, 1) := by decide +kernel
abbrev cX0_divide : ByteArray := prog_2_method_3_code
def yX0_divide : MethodName := ⟨RX0, "divide", "(IIII)J"⟩
theorem dX0_divide_0 : decode cX0_divide 0 = .ok (.iload_n 3, 1) := by decide +kernel
theorem dX0_divide_1 : decode cX0_divide 1 = .ok (.iload 4, 2) := by decide +kernel
theorem dX0_divide_3 : decode cX0_divide 3 = .ok (.invokestatic 9, 3) := by decide +kernel
theorem dX0_divide_6 : decode cX0_divide 6 = .ok (.lstore 5, 2) := by decide +kernel
theorem dX0_divide_8 : decode cX0_divide 8 = .ok (.lload 5, 2) := by decide +kernel
theorem dX0_divide_10 : decode cX0_divide 10 = .ok (.lconst 0, 1) := by decide +kernel
theorem dX0_divide_11 : decode cX0_divide 11 = .ok (.lcmp, 1) := by decide +kernel
theorem dX0_divide_12 : decode cX0_divide 12 = .ok (.ifCond .ne 9, 3) := by decide +kernel
theorem dX0_divide_15 : decode cX0_divide 15 = .ok (.ldc2_w 15, 3) := by decide +kernel
theorem dX0_divide_18 : decode cX0_divide 18 = .ok (.goto 13, 3) := by decide +kernel
theorem dX0_divide_21 : decode cX0_divide 21 = .ok (.iload_n 1, 1) := by decide +kernel
theorem dX0_divide_22 : decode cX0_divide 22 = .ok (.iload_n 2, 1) := by decide +kernel
theorem dX0_divide_23 : decode cX0_divide 23 = .ok (.invokestatic 9, 3) := by decide +kernel
theorem dX0_divide_26 : decode cX0_divide 26 = .ok (.lload 5, 2) := by decide +kernel
theorem dX0_divide_28 : decode cX0_divide 28 = .ok (.invokestatic 17, 3) := by decide +kernel
theorem dX0_divide_31 : decode cX0_divide 31 = .ok (.lreturn, 1) := by decide +kernel
abbrev cX0_wide : ByteArray := prog_2_method_2_code
def yX0_wide : MethodName := ⟨RX0, "wide", "(II)J"⟩
theorem dX0_wide_0 : decode cX0_wide 0 = .ok (.iload_n 0, 1) := by decide +kernel
theorem dX0_wide_1 : decode cX0_wide 1 = .ok (.i2l, 1) := by decide +kernel
theorem dX0_wide_2 : decode cX0_wide 2 = .ok (.bipush 32, 2) := by decide +kernel
theorem dX0_wide_4 : decode cX0_wide 4 = .ok (.lshl, 1) := by decide +kernel
theorem dX0_wide_5 : decode cX0_wide 5 = .ok (.iload_n 1, 1) := by decide +kernel
theorem dX0_wide_6 : decode cX0_wide 6 = .ok (.i2l, 1) := by decide +kernel
theorem dX0_wide_7 : decode cX0_wide 7 = .ok (.ldc2_w 7, 3) := by decide +kernel
theorem dX0_wide_10 : decode cX0_wide 10 = .ok (.land, 1) := by decide +kernel
theorem dX0_wide_11 : decode cX0_wide 11 = .ok (.lor, 1) := by decide +kernel
theorem dX0_wide_12 : decode cX0_wide 12 = .ok (.lreturn, 1) := by decide +kernel
abbrev cX0_remainder : ByteArray := prog_2_method_4_code
def yX0_remainder : MethodName := ⟨RX0, "remainder", "(IIII)J"⟩
theorem dX0_remainder_0 : decode cX0_remainder 0 = .ok (.iload_n 3, 1) := by decide +kernel
theorem dX0_remainder_1 : decode cX0_remainder 1 = .ok (.iload 4, 2) := by decide +kernel
theorem dX0_remainder_3 : decode cX0_remainder 3 = .ok (.invokestatic 9, 3) := by decide +kernel
theorem dX0_remainder_6 : decode cX0_remainder 6 = .ok (.lstore 5, 2) := by decide +kernel
theorem dX0_remainder_8 : decode cX0_remainder 8 = .ok (.lload 5, 2) := by decide +kernel
theorem dX0_remainder_10 : decode cX0_remainder 10 = .ok (.lconst 0, 1) := by decide +kernel
theorem dX0_remainder_11 : decode cX0_remainder 11 = .ok (.lcmp, 1) := by decide +kernel
theorem dX0_remainder_12 : decode cX0_remainder 12 = .ok (.ifCond .ne 9, 3) := by decide +kernel
theorem dX0_remainder_15 : decode cX0_remainder 15 = .ok (.ldc2_w 15, 3) := by decide +kernel
theorem dX0_remainder_18 : decode cX0_remainder 18 = .ok (.goto 13, 3) := by decide +kernel
theorem dX0_remainder_21 : decode cX0_remainder 21 = .ok (.iload_n 1, 1) := by decide +kernel
theorem dX0_remainder_22 : decode cX0_remainder 22 = .ok (.iload_n 2, 1) := by decide +kernel
theorem dX0_remainder_23 : decode cX0_remainder 23 = .ok (.invokestatic 9, 3) := by decide +kernel
theorem dX0_remainder_26 : decode cX0_remainder 26 = .ok (.lload 5, 2) := by decide +kernel
theorem dX0_remainder_28 : decode cX0_remainder 28 = .ok (.invokestatic 23, 3) := by decide +kernel
theorem dX0_remainder_31 : decode cX0_remainder 31 = .ok (.lreturn, 1) := by decide +kernel
abbrev cX0_compare : ByteArray := prog_2_method_5_code
def yX0_compare : MethodName := ⟨RX0, "compare", "(IIII)I"⟩
theorem dX0_compare_0 : decode cX0_compare 0 = .ok (.iload_n 1, 1) := by decide +kernel
theorem dX0_compare_1 : decode cX0_compare 1 = .ok (.iload_n 2, 1) := by decide +kernel
theorem dX0_compare_2 : decode cX0_compare 2 = .ok (.invokestatic 9, 3) := by decide +kernel
theorem dX0_compare_5 : decode cX0_compare 5 = .ok (.iload_n 3, 1) := by decide +kernel
theorem dX0_compare_6 : decode cX0_compare 6 = .ok (.iload 4, 2) := by decide +kernel
theorem dX0_compare_8 : decode cX0_compare 8 = .ok (.invokestatic 9, 3) := by decide +kernel
theorem dX0_compare_11 : decode cX0_compare 11 = .ok (.invokestatic 26, 3) := by decide +kernel
theorem dX0_compare_14 : decode cX0_compare 14 = .ok (.istore 5, 2) := by decide +kernel
theorem dX0_compare_16 : decode cX0_compare 16 = .ok (.iload 5, 2) := by decide +kernel
theorem dX0_compare_18 : decode cX0_compare 18 = .ok (.ifCond .ge 7, 3) := by decide +kernel
theorem dX0_compare_21 : decode cX0_compare 21 = .ok (.iconst (-1), 1) := by decide +kernel
theorem dX0_compare_22 : decode cX0_compare 22 = .ok (.goto 13, 3) := by decide +kernel
theorem dX0_compare_25 : decode cX0_compare 25 = .ok (.iload 5, 2) := by decide +kernel
theorem dX0_compare_27 : decode cX0_compare 27 = .ok (.ifCond .le 7, 3) := by decide +kernel
theorem dX0_compare_30 : decode cX0_compare 30 = .ok (.iconst 1, 1) := by decide +kernel
theorem dX0_compare_31 : decode cX0_compare 31 = .ok (.goto 4, 3) := by decide +kernel
theorem dX0_compare_34 : decode cX0_compare 34 = .ok (.iconst 0, 1) := by decide +kernel
theorem dX0_compare_35 : decode cX0_compare 35 = .ok (.ireturn, 1) := by decide +kernel
theorem q1 : (Jvm.Cond.initialized "UnsignedDesk") ∈ lw_all := lw_g (lw_at lw_m0 1 rfl) rfl
theorem q7 : (Jvm.Cond.instantiable "UnsignedDesk" (0 : Nat)) ∈ lw_all := lw_g (lw_at lw_m0 7 rfl) rfl
theorem q9 : (Jvm.Cond.instanceMethod ({ cls := "UnsignedDesk", name := "<init>", desc := "()V" } : Jvm.MethodName)) ∈ lw_all := lw_g (lw_at lw_m0 9 rfl) rfl
theorem q10 : (Jvm.Cond.code ({ cls := "UnsignedDesk", name := "<init>", desc := "()V" } : Jvm.MethodName) prog_2_method_1_code (1 : Nat) (Option.none : Option Jvm.ClassFile.FieldType)) ∈ lw_all := lw_g (lw_at lw_m0 10 rfl) rfl
theorem q11 : (Jvm.Cond.methodLink "UnsignedDesk" (1 : Nat) ({ cls := "java/lang/Object", name := "<init>", desc := "()V" } : Jvm.MethodName)) ∈ lw_all := lw_g (lw_at lw_m0 11 rfl) rfl
theorem q14 : (Jvm.Cond.superclass "UnsignedDesk" "java/lang/Object") ∈ lw_all := lw_g (lw_at lw_m0 14 rfl) rfl
theorem q16 : (Jvm.Cond.instanceMethod ({ cls := "UnsignedDesk", name := "divide", desc := "(IIII)J" } : Jvm.MethodName)) ∈ lw_all := lw_g (lw_at lw_m0 16 rfl) rfl
theorem q17 : (Jvm.Cond.selects "UnsignedDesk" ({ cls := "UnsignedDesk", name := "divide", desc := "(IIII)J" } : Jvm.MethodName) ({ cls := "UnsignedDesk", name := "divide", desc := "(IIII)J" } : Jvm.MethodName)) ∈ lw_all := lw_g (lw_at lw_m0 17 rfl) rfl
theorem q18 : (Jvm.Cond.code ({ cls := "UnsignedDesk", name := "divide", desc := "(IIII)J" } : Jvm.MethodName) prog_2_method_3_code (7 : Nat) (Option.some Jvm.ClassFile.FieldType.long)) ∈ lw_all := lw_g (lw_at lw_m0 18 rfl) rfl
theorem q19 : (Jvm.Cond.methodLink "UnsignedDesk" (9 : Nat) ({ cls := "UnsignedDesk", name := "wide", desc := "(II)J" } : Jvm.MethodName)) ∈ lw_all := lw_g (lw_at lw_m0 19 rfl) rfl
theorem q20 : (Jvm.Cond.static ({ cls := "UnsignedDesk", name := "wide", desc := "(II)J" } : Jvm.MethodName)) ∈ lw_all := lw_g (lw_at lw_m0 20 rfl) rfl
theorem q21 : (Jvm.Cond.code ({ cls := "UnsignedDesk", name := "wide", desc := "(II)J" } : Jvm.MethodName) prog_2_method_2_code (2 : Nat) (Option.some Jvm.ClassFile.FieldType.long)) ∈ lw_all := lw_g (lw_at lw_m0 21 rfl) rfl
theorem q22 : (Jvm.Cond.constantLong "UnsignedDesk" (7 : Nat) (4294967295 : Int64)) ∈ lw_all := lw_g (lw_at lw_m0 22 rfl) rfl
theorem q23 : (Jvm.Cond.constantLong "UnsignedDesk" (15 : Nat) (-1 : Int64)) ∈ lw_all := lw_g (lw_at lw_m0 23 rfl) rfl
theorem q24 : (Jvm.Cond.methodLink "UnsignedDesk" (17 : Nat) ({ cls := "UnsignedLongs", name := "divide", desc := "(JJ)J" } : Jvm.MethodName)) ∈ lw_all := lw_g (lw_at lw_m0 24 rfl) rfl
theorem q41 : (Jvm.Cond.instanceMethod ({ cls := "UnsignedDesk", name := "remainder", desc := "(IIII)J" } : Jvm.MethodName)) ∈ lw_all := lw_g (lw_at lw_m0 41 rfl) rfl
theorem q42 : (Jvm.Cond.selects "UnsignedDesk" ({ cls := "UnsignedDesk", name := "remainder", desc := "(IIII)J" } : Jvm.MethodName) ({ cls := "UnsignedDesk", name := "remainder", desc := "(IIII)J" } : Jvm.MethodName)) ∈ lw_all := lw_g (lw_at lw_m0 42 rfl) rfl
theorem q43 : (Jvm.Cond.code ({ cls := "UnsignedDesk", name := "remainder", desc := "(IIII)J" } : Jvm.MethodName) prog_2_method_4_code (7 : Nat) (Option.some Jvm.ClassFile.FieldType.long)) ∈ lw_all := lw_g (lw_at lw_m0 43 rfl) rfl
theorem q44 : (Jvm.Cond.methodLink "UnsignedDesk" (23 : Nat) ({ cls := "UnsignedLongs", name := "remainder", desc := "(JJ)J" } : Jvm.MethodName)) ∈ lw_all := lw_g (lw_at lw_m0 44 rfl) rfl
theorem q48 : (Jvm.Cond.instanceMethod ({ cls := "UnsignedDesk", name := "compare", desc := "(IIII)I" } : Jvm.MethodName)) ∈ lw_all := lw_g (lw_at lw_m0 48 rfl) rfl
theorem q49 : (Jvm.Cond.selects "UnsignedDesk" ({ cls := "UnsignedDesk", name := "compare", desc := "(IIII)I" } : Jvm.MethodName) ({ cls := "UnsignedDesk", name := "compare", desc := "(IIII)I" } : Jvm.MethodName)) ∈ lw_all := lw_g (lw_at lw_m0 49 rfl) rfl
theorem q50 : (Jvm.Cond.code ({ cls := "UnsignedDesk", name := "compare", desc := "(IIII)I" } : Jvm.MethodName) prog_2_method_5_code (6 : Nat) (Option.some Jvm.ClassFile.FieldType.int)) ∈ lw_all := lw_g (lw_at lw_m0 50 rfl) rfl
theorem q51 : (Jvm.Cond.methodLink "UnsignedDesk" (26 : Nat) ({ cls := "UnsignedLongs", name := "compare", desc := "(JJ)I" } : Jvm.MethodName)) ∈ lw_all := lw_g (lw_at lw_m0 51 rfl) rfl
def RX1 : String := "UnsignedDeskModel"
abbrev cX1_init : ByteArray := prog_4_method_1_code
def yX1_init : MethodName := ⟨RX1, "<init>", "()V"⟩
theorem dX1_init_0 : decode cX1_init 0 = .ok (.aload_n 0, 1) := by decide +kernel
theorem dX1_init_1 : decode cX1_init 1 = .ok (.invokespecial 1, 3) := by decide +kernel
theorem dX1_init_4 : decode cX1_init 4 = .ok (.return_, 1) := by decide +kernel
abbrev cX1_divide : ByteArray := prog_4_method_5_code
def yX1_divide : MethodName := ⟨RX1, "divide", "(IIII)J"⟩
theorem dX1_divide_0 : decode cX1_divide 0 = .ok (.iload_n 3, 1) := by decide +kernel
theorem dX1_divide_1 : decode cX1_divide 1 = .ok (.iload 4, 2) := by decide +kernel
theorem dX1_divide_3 : decode cX1_divide 3 = .ok (.invokestatic 15, 3) := by decide +kernel
theorem dX1_divide_6 : decode cX1_divide 6 = .ok (.lstore 5, 2) := by decide +kernel
theorem dX1_divide_8 : decode cX1_divide 8 = .ok (.lload 5, 2) := by decide +kernel
theorem dX1_divide_10 : decode cX1_divide 10 = .ok (.lconst 0, 1) := by decide +kernel
theorem dX1_divide_11 : decode cX1_divide 11 = .ok (.lcmp, 1) := by decide +kernel
theorem dX1_divide_12 : decode cX1_divide 12 = .ok (.ifCond .ne 9, 3) := by decide +kernel
theorem dX1_divide_15 : decode cX1_divide 15 = .ok (.ldc2_w 19, 3) := by decide +kernel
theorem dX1_divide_18 : decode cX1_divide 18 = .ok (.goto 14, 3) := by decide +kernel
theorem dX1_divide_21 : decode cX1_divide 21 = .ok (.iload_n 1, 1) := by decide +kernel
theorem dX1_divide_22 : decode cX1_divide 22 = .ok (.iload_n 2, 1) := by decide +kernel
theorem dX1_divide_23 : decode cX1_divide 23 = .ok (.invokestatic 15, 3) := by decide +kernel
theorem dX1_divide_26 : decode cX1_divide 26 = .ok (.lload 5, 2) := by decide +kernel
theorem dX1_divide_28 : decode cX1_divide 28 = .ok (.iconst 0, 1) := by decide +kernel
theorem dX1_divide_29 : decode cX1_divide 29 = .ok (.invokestatic 21, 3) := by decide +kernel
theorem dX1_divide_32 : decode cX1_divide 32 = .ok (.lreturn, 1) := by decide +kernel
abbrev cX1_wide : ByteArray := prog_4_method_4_code
def yX1_wide : MethodName := ⟨RX1, "wide", "(II)J"⟩
theorem dX1_wide_0 : decode cX1_wide 0 = .ok (.iload_n 0, 1) := by decide +kernel
theorem dX1_wide_1 : decode cX1_wide 1 = .ok (.i2l, 1) := by decide +kernel
theorem dX1_wide_2 : decode cX1_wide 2 = .ok (.bipush 32, 2) := by decide +kernel
theorem dX1_wide_4 : decode cX1_wide 4 = .ok (.lshl, 1) := by decide +kernel
theorem dX1_wide_5 : decode cX1_wide 5 = .ok (.iload_n 1, 1) := by decide +kernel
theorem dX1_wide_6 : decode cX1_wide 6 = .ok (.i2l, 1) := by decide +kernel
theorem dX1_wide_7 : decode cX1_wide 7 = .ok (.ldc2_w 13, 3) := by decide +kernel
theorem dX1_wide_10 : decode cX1_wide 10 = .ok (.land, 1) := by decide +kernel
theorem dX1_wide_11 : decode cX1_wide 11 = .ok (.lor, 1) := by decide +kernel
theorem dX1_wide_12 : decode cX1_wide 12 = .ok (.lreturn, 1) := by decide +kernel
abbrev cX1_run : ByteArray := prog_4_method_3_code
def yX1_run : MethodName := ⟨RX1, "run", "(JJZ)J"⟩
theorem dX1_run_0 : decode cX1_run 0 = .ok (.lconst 0, 1) := by decide +kernel
theorem dX1_run_1 : decode cX1_run 1 = .ok (.lstore 5, 2) := by decide +kernel
theorem dX1_run_3 : decode cX1_run 3 = .ok (.lconst 0, 1) := by decide +kernel
theorem dX1_run_4 : decode cX1_run 4 = .ok (.lstore 7, 2) := by decide +kernel
theorem dX1_run_6 : decode cX1_run 6 = .ok (.bipush 63, 2) := by decide +kernel
theorem dX1_run_8 : decode cX1_run 8 = .ok (.istore 9, 2) := by decide +kernel
theorem dX1_run_10 : decode cX1_run 10 = .ok (.iload 9, 2) := by decide +kernel
theorem dX1_run_12 : decode cX1_run 12 = .ok (.ifCond .lt 68, 3) := by decide +kernel
theorem dX1_run_15 : decode cX1_run 15 = .ok (.lload 7, 2) := by decide +kernel
theorem dX1_run_17 : decode cX1_run 17 = .ok (.lconst 0, 1) := by decide +kernel
theorem dX1_run_18 : decode cX1_run 18 = .ok (.lcmp, 1) := by decide +kernel
theorem dX1_run_19 : decode cX1_run 19 = .ok (.ifCond .ge 7, 3) := by decide +kernel
theorem dX1_run_22 : decode cX1_run 22 = .ok (.iconst 1, 1) := by decide +kernel
theorem dX1_run_23 : decode cX1_run 23 = .ok (.goto 4, 3) := by decide +kernel
theorem dX1_run_26 : decode cX1_run 26 = .ok (.iconst 0, 1) := by decide +kernel
theorem dX1_run_27 : decode cX1_run 27 = .ok (.istore 10, 2) := by decide +kernel
theorem dX1_run_29 : decode cX1_run 29 = .ok (.lload 7, 2) := by decide +kernel
theorem dX1_run_31 : decode cX1_run 31 = .ok (.iconst 1, 1) := by decide +kernel
theorem dX1_run_32 : decode cX1_run 32 = .ok (.lshl, 1) := by decide +kernel
theorem dX1_run_33 : decode cX1_run 33 = .ok (.lload_n 0, 1) := by decide +kernel
theorem dX1_run_34 : decode cX1_run 34 = .ok (.iload 9, 2) := by decide +kernel
theorem dX1_run_36 : decode cX1_run 36 = .ok (.lushr, 1) := by decide +kernel
theorem dX1_run_37 : decode cX1_run 37 = .ok (.lconst 1, 1) := by decide +kernel
theorem dX1_run_38 : decode cX1_run 38 = .ok (.land, 1) := by decide +kernel
theorem dX1_run_39 : decode cX1_run 39 = .ok (.lor, 1) := by decide +kernel
theorem dX1_run_40 : decode cX1_run 40 = .ok (.lstore 7, 2) := by decide +kernel
theorem dX1_run_42 : decode cX1_run 42 = .ok (.lload 5, 2) := by decide +kernel
theorem dX1_run_44 : decode cX1_run 44 = .ok (.iconst 1, 1) := by decide +kernel
theorem dX1_run_45 : decode cX1_run 45 = .ok (.lshl, 1) := by decide +kernel
theorem dX1_run_46 : decode cX1_run 46 = .ok (.lstore 5, 2) := by decide +kernel
theorem dX1_run_48 : decode cX1_run 48 = .ok (.iload 10, 2) := by decide +kernel
theorem dX1_run_50 : decode cX1_run 50 = .ok (.ifCond .ne 12, 3) := by decide +kernel
theorem dX1_run_53 : decode cX1_run 53 = .ok (.lload 7, 2) := by decide +kernel
theorem dX1_run_55 : decode cX1_run 55 = .ok (.lload_n 2, 1) := by decide +kernel
theorem dX1_run_56 : decode cX1_run 56 = .ok (.invokestatic 7, 3) := by decide +kernel
theorem dX1_run_59 : decode cX1_run 59 = .ok (.ifCond .ne 15, 3) := by decide +kernel
theorem dX1_run_62 : decode cX1_run 62 = .ok (.lload 7, 2) := by decide +kernel
theorem dX1_run_64 : decode cX1_run 64 = .ok (.lload_n 2, 1) := by decide +kernel
theorem dX1_run_65 : decode cX1_run 65 = .ok (.lsub, 1) := by decide +kernel
theorem dX1_run_66 : decode cX1_run 66 = .ok (.lstore 7, 2) := by decide +kernel
theorem dX1_run_68 : decode cX1_run 68 = .ok (.lload 5, 2) := by decide +kernel
theorem dX1_run_70 : decode cX1_run 70 = .ok (.lconst 1, 1) := by decide +kernel
theorem dX1_run_71 : decode cX1_run 71 = .ok (.lor, 1) := by decide +kernel
theorem dX1_run_72 : decode cX1_run 72 = .ok (.lstore 5, 2) := by decide +kernel
theorem dX1_run_74 : decode cX1_run 74 = .ok (.iinc 9 (-1), 3) := by decide +kernel
theorem dX1_run_77 : decode cX1_run 77 = .ok (.goto (-67), 3) := by decide +kernel
theorem dX1_run_80 : decode cX1_run 80 = .ok (.iload 4, 2) := by decide +kernel
theorem dX1_run_82 : decode cX1_run 82 = .ok (.ifCond .eq 8, 3) := by decide +kernel
theorem dX1_run_85 : decode cX1_run 85 = .ok (.lload 7, 2) := by decide +kernel
theorem dX1_run_87 : decode cX1_run 87 = .ok (.goto 5, 3) := by decide +kernel
theorem dX1_run_90 : decode cX1_run 90 = .ok (.lload 5, 2) := by decide +kernel
theorem dX1_run_92 : decode cX1_run 92 = .ok (.lreturn, 1) := by decide +kernel
abbrev cX1_less : ByteArray := prog_4_method_2_code
def yX1_less : MethodName := ⟨RX1, "less", "(JJ)Z"⟩
theorem dX1_less_0 : decode cX1_less 0 = .ok (.bipush 63, 2) := by decide +kernel
theorem dX1_less_2 : decode cX1_less 2 = .ok (.istore 4, 2) := by decide +kernel
theorem dX1_less_4 : decode cX1_less 4 = .ok (.iload 4, 2) := by decide +kernel
theorem dX1_less_6 : decode cX1_less 6 = .ok (.ifCond .lt 47, 3) := by decide +kernel
theorem dX1_less_9 : decode cX1_less 9 = .ok (.lload_n 0, 1) := by decide +kernel
theorem dX1_less_10 : decode cX1_less 10 = .ok (.iload 4, 2) := by decide +kernel
theorem dX1_less_12 : decode cX1_less 12 = .ok (.lushr, 1) := by decide +kernel
theorem dX1_less_13 : decode cX1_less 13 = .ok (.lconst 1, 1) := by decide +kernel
theorem dX1_less_14 : decode cX1_less 14 = .ok (.land, 1) := by decide +kernel
theorem dX1_less_15 : decode cX1_less 15 = .ok (.lstore 5, 2) := by decide +kernel
theorem dX1_less_17 : decode cX1_less 17 = .ok (.lload_n 2, 1) := by decide +kernel
theorem dX1_less_18 : decode cX1_less 18 = .ok (.iload 4, 2) := by decide +kernel
theorem dX1_less_20 : decode cX1_less 20 = .ok (.lushr, 1) := by decide +kernel
theorem dX1_less_21 : decode cX1_less 21 = .ok (.lconst 1, 1) := by decide +kernel
theorem dX1_less_22 : decode cX1_less 22 = .ok (.land, 1) := by decide +kernel
theorem dX1_less_23 : decode cX1_less 23 = .ok (.lstore 7, 2) := by decide +kernel
theorem dX1_less_25 : decode cX1_less 25 = .ok (.lload 5, 2) := by decide +kernel
theorem dX1_less_27 : decode cX1_less 27 = .ok (.lload 7, 2) := by decide +kernel
theorem dX1_less_29 : decode cX1_less 29 = .ok (.lcmp, 1) := by decide +kernel
theorem dX1_less_30 : decode cX1_less 30 = .ok (.ifCond .eq 17, 3) := by decide +kernel
theorem dX1_less_33 : decode cX1_less 33 = .ok (.lload 5, 2) := by decide +kernel
theorem dX1_less_35 : decode cX1_less 35 = .ok (.lload 7, 2) := by decide +kernel
theorem dX1_less_37 : decode cX1_less 37 = .ok (.lcmp, 1) := by decide +kernel
theorem dX1_less_38 : decode cX1_less 38 = .ok (.ifCond .ge 7, 3) := by decide +kernel
theorem dX1_less_41 : decode cX1_less 41 = .ok (.iconst 1, 1) := by decide +kernel
theorem dX1_less_42 : decode cX1_less 42 = .ok (.goto 4, 3) := by decide +kernel
theorem dX1_less_45 : decode cX1_less 45 = .ok (.iconst 0, 1) := by decide +kernel
theorem dX1_less_46 : decode cX1_less 46 = .ok (.ireturn, 1) := by decide +kernel
theorem dX1_less_47 : decode cX1_less 47 = .ok (.iinc 4 (-1), 3) := by decide +kernel
theorem dX1_less_50 : decode cX1_less 50 = .ok (.goto (-46), 3) := by decide +kernel
theorem dX1_less_53 : decode cX1_less 53 = .ok (.iconst 0, 1) := by decide +kernel
theorem dX1_less_54 : decode cX1_less 54 = .ok (.ireturn, 1) := by decide +kernel
abbrev cX1_remainder : ByteArray := prog_4_method_6_code
def yX1_remainder : MethodName := ⟨RX1, "remainder", "(IIII)J"⟩
theorem dX1_remainder_0 : decode cX1_remainder 0 = .ok (.iload_n 3, 1) := by decide +kernel
theorem dX1_remainder_1 : decode cX1_remainder 1 = .ok (.iload 4, 2) := by decide +kernel
theorem dX1_remainder_3 : decode cX1_remainder 3 = .ok (.invokestatic 15, 3) := by decide +kernel
theorem dX1_remainder_6 : decode cX1_remainder 6 = .ok (.lstore 5, 2) := by decide +kernel
theorem dX1_remainder_8 : decode cX1_remainder 8 = .ok (.lload 5, 2) := by decide +kernel
theorem dX1_remainder_10 : decode cX1_remainder 10 = .ok (.lconst 0, 1) := by decide +kernel
theorem dX1_remainder_11 : decode cX1_remainder 11 = .ok (.lcmp, 1) := by decide +kernel
theorem dX1_remainder_12 : decode cX1_remainder 12 = .ok (.ifCond .ne 9, 3) := by decide +kernel
theorem dX1_remainder_15 : decode cX1_remainder 15 = .ok (.ldc2_w 19, 3) := by decide +kernel
theorem dX1_remainder_18 : decode cX1_remainder 18 = .ok (.goto 14, 3) := by decide +kernel
theorem dX1_remainder_21 : decode cX1_remainder 21 = .ok (.iload_n 1, 1) := by decide +kernel
theorem dX1_remainder_22 : decode cX1_remainder 22 = .ok (.iload_n 2, 1) := by decide +kernel
theorem dX1_remainder_23 : decode cX1_remainder 23 = .ok (.invokestatic 15, 3) := by decide +kernel
theorem dX1_remainder_26 : decode cX1_remainder 26 = .ok (.lload 5, 2) := by decide +kernel
theorem dX1_remainder_28 : decode cX1_remainder 28 = .ok (.iconst 1, 1) := by decide +kernel
theorem dX1_remainder_29 : decode cX1_remainder 29 = .ok (.invokestatic 21, 3) := by decide +kernel
theorem dX1_remainder_32 : decode cX1_remainder 32 = .ok (.lreturn, 1) := by decide +kernel
abbrev cX1_compare : ByteArray := prog_4_method_7_code
def yX1_compare : MethodName := ⟨RX1, "compare", "(IIII)I"⟩
theorem dX1_compare_0 : decode cX1_compare 0 = .ok (.iload_n 1, 1) := by decide +kernel
theorem dX1_compare_1 : decode cX1_compare 1 = .ok (.iload_n 2, 1) := by decide +kernel
theorem dX1_compare_2 : decode cX1_compare 2 = .ok (.invokestatic 15, 3) := by decide +kernel
theorem dX1_compare_5 : decode cX1_compare 5 = .ok (.lstore 5, 2) := by decide +kernel
theorem dX1_compare_7 : decode cX1_compare 7 = .ok (.iload_n 3, 1) := by decide +kernel
theorem dX1_compare_8 : decode cX1_compare 8 = .ok (.iload 4, 2) := by decide +kernel
theorem dX1_compare_10 : decode cX1_compare 10 = .ok (.invokestatic 15, 3) := by decide +kernel
theorem dX1_compare_13 : decode cX1_compare 13 = .ok (.lstore 7, 2) := by decide +kernel
theorem dX1_compare_15 : decode cX1_compare 15 = .ok (.lload 5, 2) := by decide +kernel
theorem dX1_compare_17 : decode cX1_compare 17 = .ok (.lload 7, 2) := by decide +kernel
theorem dX1_compare_19 : decode cX1_compare 19 = .ok (.invokestatic 7, 3) := by decide +kernel
theorem dX1_compare_22 : decode cX1_compare 22 = .ok (.ifCond .eq 7, 3) := by decide +kernel
theorem dX1_compare_25 : decode cX1_compare 25 = .ok (.iconst (-1), 1) := by decide +kernel
theorem dX1_compare_26 : decode cX1_compare 26 = .ok (.goto 16, 3) := by decide +kernel
theorem dX1_compare_29 : decode cX1_compare 29 = .ok (.lload 5, 2) := by decide +kernel
theorem dX1_compare_31 : decode cX1_compare 31 = .ok (.lload 7, 2) := by decide +kernel
theorem dX1_compare_33 : decode cX1_compare 33 = .ok (.lcmp, 1) := by decide +kernel
theorem dX1_compare_34 : decode cX1_compare 34 = .ok (.ifCond .ne 7, 3) := by decide +kernel
theorem dX1_compare_37 : decode cX1_compare 37 = .ok (.iconst 0, 1) := by decide +kernel
theorem dX1_compare_38 : decode cX1_compare 38 = .ok (.goto 4, 3) := by decide +kernel
theorem dX1_compare_41 : decode cX1_compare 41 = .ok (.iconst 1, 1) := by decide +kernel
theorem dX1_compare_42 : decode cX1_compare 42 = .ok (.ireturn, 1) := by decide +kernel
theorem q2 : (Jvm.Cond.initialized "UnsignedDeskModel") ∈ lw_all := lw_g (lw_at lw_m0 2 rfl) rfl
theorem q53 : (Jvm.Cond.instantiable "UnsignedDeskModel" (0 : Nat)) ∈ lw_all := lw_g (lw_at lw_m0 53 rfl) rfl
theorem q55 : (Jvm.Cond.instanceMethod ({ cls := "UnsignedDeskModel", name := "<init>", desc := "()V" } : Jvm.MethodName)) ∈ lw_all := lw_g (lw_at lw_m0 55 rfl) rfl
theorem q56 : (Jvm.Cond.code ({ cls := "UnsignedDeskModel", name := "<init>", desc := "()V" } : Jvm.MethodName) prog_4_method_1_code (1 : Nat) (Option.none : Option Jvm.ClassFile.FieldType)) ∈ lw_all := lw_g (lw_at lw_m0 56 rfl) rfl
theorem q57 : (Jvm.Cond.methodLink "UnsignedDeskModel" (1 : Nat) ({ cls := "java/lang/Object", name := "<init>", desc := "()V" } : Jvm.MethodName)) ∈ lw_all := lw_g (lw_at lw_m0 57 rfl) rfl
theorem q58 : (Jvm.Cond.superclass "UnsignedDeskModel" "java/lang/Object") ∈ lw_all := lw_g (lw_at lw_m0 58 rfl) rfl
theorem q60 : (Jvm.Cond.instanceMethod ({ cls := "UnsignedDeskModel", name := "divide", desc := "(IIII)J" } : Jvm.MethodName)) ∈ lw_all := lw_g (lw_at lw_m0 60 rfl) rfl
theorem q61 : (Jvm.Cond.selects "UnsignedDeskModel" ({ cls := "UnsignedDeskModel", name := "divide", desc := "(IIII)J" } : Jvm.MethodName) ({ cls := "UnsignedDeskModel", name := "divide", desc := "(IIII)J" } : Jvm.MethodName)) ∈ lw_all := lw_g (lw_at lw_m0 61 rfl) rfl
theorem q62 : (Jvm.Cond.code ({ cls := "UnsignedDeskModel", name := "divide", desc := "(IIII)J" } : Jvm.MethodName) prog_4_method_5_code (7 : Nat) (Option.some Jvm.ClassFile.FieldType.long)) ∈ lw_all := lw_g (lw_at lw_m0 62 rfl) rfl
theorem q63 : (Jvm.Cond.methodLink "UnsignedDeskModel" (15 : Nat) ({ cls := "UnsignedDeskModel", name := "wide", desc := "(II)J" } : Jvm.MethodName)) ∈ lw_all := lw_g (lw_at lw_m0 63 rfl) rfl
theorem q64 : (Jvm.Cond.static ({ cls := "UnsignedDeskModel", name := "wide", desc := "(II)J" } : Jvm.MethodName)) ∈ lw_all := lw_g (lw_at lw_m0 64 rfl) rfl
theorem q65 : (Jvm.Cond.code ({ cls := "UnsignedDeskModel", name := "wide", desc := "(II)J" } : Jvm.MethodName) prog_4_method_4_code (2 : Nat) (Option.some Jvm.ClassFile.FieldType.long)) ∈ lw_all := lw_g (lw_at lw_m0 65 rfl) rfl
theorem q66 : (Jvm.Cond.constantLong "UnsignedDeskModel" (13 : Nat) (4294967295 : Int64)) ∈ lw_all := lw_g (lw_at lw_m0 66 rfl) rfl
theorem q67 : (Jvm.Cond.constantLong "UnsignedDeskModel" (19 : Nat) (-1 : Int64)) ∈ lw_all := lw_g (lw_at lw_m0 67 rfl) rfl
theorem q68 : (Jvm.Cond.methodLink "UnsignedDeskModel" (21 : Nat) ({ cls := "UnsignedDeskModel", name := "run", desc := "(JJZ)J" } : Jvm.MethodName)) ∈ lw_all := lw_g (lw_at lw_m0 68 rfl) rfl
theorem q69 : (Jvm.Cond.static ({ cls := "UnsignedDeskModel", name := "run", desc := "(JJZ)J" } : Jvm.MethodName)) ∈ lw_all := lw_g (lw_at lw_m0 69 rfl) rfl
theorem q70 : (Jvm.Cond.code ({ cls := "UnsignedDeskModel", name := "run", desc := "(JJZ)J" } : Jvm.MethodName) prog_4_method_3_code (11 : Nat) (Option.some Jvm.ClassFile.FieldType.long)) ∈ lw_all := lw_g (lw_at lw_m0 70 rfl) rfl
theorem q71 : (Jvm.Cond.methodLink "UnsignedDeskModel" (7 : Nat) ({ cls := "UnsignedDeskModel", name := "less", desc := "(JJ)Z" } : Jvm.MethodName)) ∈ lw_all := lw_g (lw_at lw_m0 71 rfl) rfl
theorem q72 : (Jvm.Cond.static ({ cls := "UnsignedDeskModel", name := "less", desc := "(JJ)Z" } : Jvm.MethodName)) ∈ lw_all := lw_g (lw_at lw_m0 72 rfl) rfl
theorem q73 : (Jvm.Cond.code ({ cls := "UnsignedDeskModel", name := "less", desc := "(JJ)Z" } : Jvm.MethodName) prog_4_method_2_code (9 : Nat) (Option.some Jvm.ClassFile.FieldType.boolean)) ∈ lw_all := lw_g (lw_at lw_m0 73 rfl) rfl
theorem q75 : (Jvm.Cond.instanceMethod ({ cls := "UnsignedDeskModel", name := "remainder", desc := "(IIII)J" } : Jvm.MethodName)) ∈ lw_all := lw_g (lw_at lw_m0 75 rfl) rfl
theorem q76 : (Jvm.Cond.selects "UnsignedDeskModel" ({ cls := "UnsignedDeskModel", name := "remainder", desc := "(IIII)J" } : Jvm.MethodName) ({ cls := "UnsignedDeskModel", name := "remainder", desc := "(IIII)J" } : Jvm.MethodName)) ∈ lw_all := lw_g (lw_at lw_m0 76 rfl) rfl
theorem q77 : (Jvm.Cond.code ({ cls := "UnsignedDeskModel", name := "remainder", desc := "(IIII)J" } : Jvm.MethodName) prog_4_method_6_code (7 : Nat) (Option.some Jvm.ClassFile.FieldType.long)) ∈ lw_all := lw_g (lw_at lw_m0 77 rfl) rfl
theorem q79 : (Jvm.Cond.instanceMethod ({ cls := "UnsignedDeskModel", name := "compare", desc := "(IIII)I" } : Jvm.MethodName)) ∈ lw_all := lw_g (lw_at lw_m0 79 rfl) rfl
theorem q80 : (Jvm.Cond.selects "UnsignedDeskModel" ({ cls := "UnsignedDeskModel", name := "compare", desc := "(IIII)I" } : Jvm.MethodName) ({ cls := "UnsignedDeskModel", name := "compare", desc := "(IIII)I" } : Jvm.MethodName)) ∈ lw_all := lw_g (lw_at lw_m0 80 rfl) rfl
theorem q81 : (Jvm.Cond.code ({ cls := "UnsignedDeskModel", name := "compare", desc := "(IIII)I" } : Jvm.MethodName) prog_4_method_7_code (9 : Nat) (Option.some Jvm.ClassFile.FieldType.int)) ∈ lw_all := lw_g (lw_at lw_m0 81 rfl) rfl
theorem q0 : (Jvm.Cond.initialized "UnsignedDeskLaw") ∈ lw_all := lw_g (lw_at lw_m0 0 rfl) rfl
theorem q6 : (Jvm.Cond.classLink "UnsignedDeskLaw" (7 : Nat) "UnsignedDesk") ∈ lw_all := lw_g (lw_at lw_m0 6 rfl) rfl
theorem q8 : (Jvm.Cond.methodLink "UnsignedDeskLaw" (9 : Nat) ({ cls := "UnsignedDesk", name := "<init>", desc := "()V" } : Jvm.MethodName)) ∈ lw_all := lw_g (lw_at lw_m0 8 rfl) rfl
theorem q15 : (Jvm.Cond.methodLink "UnsignedDeskLaw" (13 : Nat) ({ cls := "UnsignedDesk", name := "divide", desc := "(IIII)J" } : Jvm.MethodName)) ∈ lw_all := lw_g (lw_at lw_m0 15 rfl) rfl
theorem q40 : (Jvm.Cond.methodLink "UnsignedDeskLaw" (18 : Nat) ({ cls := "UnsignedDesk", name := "remainder", desc := "(IIII)J" } : Jvm.MethodName)) ∈ lw_all := lw_g (lw_at lw_m0 40 rfl) rfl
theorem q47 : (Jvm.Cond.methodLink "UnsignedDeskLaw" (22 : Nat) ({ cls := "UnsignedDesk", name := "compare", desc := "(IIII)I" } : Jvm.MethodName)) ∈ lw_all := lw_g (lw_at lw_m0 47 rfl) rfl
theorem q52 : (Jvm.Cond.classLink "UnsignedDeskLaw" (10 : Nat) "UnsignedDeskModel") ∈ lw_all := lw_g (lw_at lw_m0 52 rfl) rfl
theorem q54 : (Jvm.Cond.methodLink "UnsignedDeskLaw" (12 : Nat) ({ cls := "UnsignedDeskModel", name := "<init>", desc := "()V" } : Jvm.MethodName)) ∈ lw_all := lw_g (lw_at lw_m0 54 rfl) rfl
theorem q59 : (Jvm.Cond.methodLink "UnsignedDeskLaw" (17 : Nat) ({ cls := "UnsignedDeskModel", name := "divide", desc := "(IIII)J" } : Jvm.MethodName)) ∈ lw_all := lw_g (lw_at lw_m0 59 rfl) rfl
theorem q74 : (Jvm.Cond.methodLink "UnsignedDeskLaw" (21 : Nat) ({ cls := "UnsignedDeskModel", name := "remainder", desc := "(IIII)J" } : Jvm.MethodName)) ∈ lw_all := lw_g (lw_at lw_m0 74 rfl) rfl
theorem q78 : (Jvm.Cond.methodLink "UnsignedDeskLaw" (26 : Nat) ({ cls := "UnsignedDeskModel", name := "compare", desc := "(IIII)I" } : Jvm.MethodName)) ∈ lw_all := lw_g (lw_at lw_m0 78 rfl) rfl
end
section
/-! the law's entry: its decode rows (printed by gen/gen_names.py) -/
set_option maxRecDepth 100000
abbrev cL_law : ByteArray := code
theorem dL_law_0 : decode cL_law 0 = .ok (.new 7, 3) := by decide +kernel
theorem dL_law_3 : decode cL_law 3 = .ok (.dup, 1) := by decide +kernel
theorem dL_law_4 : decode cL_law 4 = .ok (.invokespecial 9, 3) := by decide +kernel
theorem dL_law_7 : decode cL_law 7 = .ok (.astore_n 1, 1) := by decide +kernel
theorem dL_law_8 : decode cL_law 8 = .ok (.new 10, 3) := by decide +kernel
theorem dL_law_11 : decode cL_law 11 = .ok (.dup, 1) := by decide +kernel
theorem dL_law_12 : decode cL_law 12 = .ok (.invokespecial 12, 3) := by decide +kernel
theorem dL_law_15 : decode cL_law 15 = .ok (.astore_n 2, 1) := by decide +kernel
theorem dL_law_16 : decode cL_law 16 = .ok (.iconst 0, 1) := by decide +kernel
theorem dL_law_17 : decode cL_law 17 = .ok (.istore_n 3, 1) := by decide +kernel
theorem dL_law_18 : decode cL_law 18 = .ok (.iload_n 3, 1) := by decide +kernel
theorem dL_law_19 : decode cL_law 19 = .ok (.aload_n 0, 1) := by decide +kernel
theorem dL_law_20 : decode cL_law 20 = .ok (.arraylength, 1) := by decide +kernel
theorem dL_law_21 : decode cL_law 21 = .ok (.bipush 6, 2) := by decide +kernel
theorem dL_law_23 : decode cL_law 23 = .ok (.isub, 1) := by decide +kernel
theorem dL_law_24 : decode cL_law 24 = .ok (.if_icmp .gt 203, 3) := by decide +kernel
theorem dL_law_27 : decode cL_law 27 = .ok (.aload_n 0, 1) := by decide +kernel
theorem dL_law_28 : decode cL_law 28 = .ok (.iload_n 3, 1) := by decide +kernel
theorem dL_law_29 : decode cL_law 29 = .ok (.iaload, 1) := by decide +kernel
theorem dL_law_30 : decode cL_law 30 = .ok (.bipush 15, 2) := by decide +kernel
theorem dL_law_32 : decode cL_law 32 = .ok (.iand, 1) := by decide +kernel
theorem dL_law_33 : decode cL_law 33 = .ok (.tableswitch 188 0 2 #[27, 81, 135], 27) := by decide +kernel
theorem dL_law_60 : decode cL_law 60 = .ok (.aload_n 1, 1) := by decide +kernel
theorem dL_law_61 : decode cL_law 61 = .ok (.aload_n 0, 1) := by decide +kernel
theorem dL_law_62 : decode cL_law 62 = .ok (.iload_n 3, 1) := by decide +kernel
theorem dL_law_63 : decode cL_law 63 = .ok (.iconst 1, 1) := by decide +kernel
theorem dL_law_64 : decode cL_law 64 = .ok (.iadd, 1) := by decide +kernel
theorem dL_law_65 : decode cL_law 65 = .ok (.iaload, 1) := by decide +kernel
theorem dL_law_66 : decode cL_law 66 = .ok (.aload_n 0, 1) := by decide +kernel
theorem dL_law_67 : decode cL_law 67 = .ok (.iload_n 3, 1) := by decide +kernel
theorem dL_law_68 : decode cL_law 68 = .ok (.iconst 2, 1) := by decide +kernel
theorem dL_law_69 : decode cL_law 69 = .ok (.iadd, 1) := by decide +kernel
theorem dL_law_70 : decode cL_law 70 = .ok (.iaload, 1) := by decide +kernel
theorem dL_law_71 : decode cL_law 71 = .ok (.aload_n 0, 1) := by decide +kernel
theorem dL_law_72 : decode cL_law 72 = .ok (.iload_n 3, 1) := by decide +kernel
theorem dL_law_73 : decode cL_law 73 = .ok (.iconst 3, 1) := by decide +kernel
theorem dL_law_74 : decode cL_law 74 = .ok (.iadd, 1) := by decide +kernel
theorem dL_law_75 : decode cL_law 75 = .ok (.iaload, 1) := by decide +kernel
theorem dL_law_76 : decode cL_law 76 = .ok (.aload_n 0, 1) := by decide +kernel
theorem dL_law_77 : decode cL_law 77 = .ok (.iload_n 3, 1) := by decide +kernel
theorem dL_law_78 : decode cL_law 78 = .ok (.iconst 4, 1) := by decide +kernel
theorem dL_law_79 : decode cL_law 79 = .ok (.iadd, 1) := by decide +kernel
theorem dL_law_80 : decode cL_law 80 = .ok (.iaload, 1) := by decide +kernel
theorem dL_law_81 : decode cL_law 81 = .ok (.invokevirtual 13, 3) := by decide +kernel
theorem dL_law_84 : decode cL_law 84 = .ok (.aload_n 2, 1) := by decide +kernel
theorem dL_law_85 : decode cL_law 85 = .ok (.aload_n 0, 1) := by decide +kernel
theorem dL_law_86 : decode cL_law 86 = .ok (.iload_n 3, 1) := by decide +kernel
theorem dL_law_87 : decode cL_law 87 = .ok (.iconst 1, 1) := by decide +kernel
theorem dL_law_88 : decode cL_law 88 = .ok (.iadd, 1) := by decide +kernel
theorem dL_law_89 : decode cL_law 89 = .ok (.iaload, 1) := by decide +kernel
theorem dL_law_90 : decode cL_law 90 = .ok (.aload_n 0, 1) := by decide +kernel
theorem dL_law_91 : decode cL_law 91 = .ok (.iload_n 3, 1) := by decide +kernel
theorem dL_law_92 : decode cL_law 92 = .ok (.iconst 2, 1) := by decide +kernel
theorem dL_law_93 : decode cL_law 93 = .ok (.iadd, 1) := by decide +kernel
theorem dL_law_94 : decode cL_law 94 = .ok (.iaload, 1) := by decide +kernel
theorem dL_law_95 : decode cL_law 95 = .ok (.aload_n 0, 1) := by decide +kernel
theorem dL_law_96 : decode cL_law 96 = .ok (.iload_n 3, 1) := by decide +kernel
theorem dL_law_97 : decode cL_law 97 = .ok (.iconst 3, 1) := by decide +kernel
theorem dL_law_98 : decode cL_law 98 = .ok (.iadd, 1) := by decide +kernel
theorem dL_law_99 : decode cL_law 99 = .ok (.iaload, 1) := by decide +kernel
theorem dL_law_100 : decode cL_law 100 = .ok (.aload_n 0, 1) := by decide +kernel
theorem dL_law_101 : decode cL_law 101 = .ok (.iload_n 3, 1) := by decide +kernel
theorem dL_law_102 : decode cL_law 102 = .ok (.iconst 4, 1) := by decide +kernel
theorem dL_law_103 : decode cL_law 103 = .ok (.iadd, 1) := by decide +kernel
theorem dL_law_104 : decode cL_law 104 = .ok (.iaload, 1) := by decide +kernel
theorem dL_law_105 : decode cL_law 105 = .ok (.invokevirtual 17, 3) := by decide +kernel
theorem dL_law_108 : decode cL_law 108 = .ok (.lcmp, 1) := by decide +kernel
theorem dL_law_109 : decode cL_law 109 = .ok (.ifCond .eq 112, 3) := by decide +kernel
theorem dL_law_112 : decode cL_law 112 = .ok (.iconst 0, 1) := by decide +kernel
theorem dL_law_113 : decode cL_law 113 = .ok (.ireturn, 1) := by decide +kernel
theorem dL_law_114 : decode cL_law 114 = .ok (.aload_n 1, 1) := by decide +kernel
theorem dL_law_115 : decode cL_law 115 = .ok (.aload_n 0, 1) := by decide +kernel
theorem dL_law_116 : decode cL_law 116 = .ok (.iload_n 3, 1) := by decide +kernel
theorem dL_law_117 : decode cL_law 117 = .ok (.iconst 1, 1) := by decide +kernel
theorem dL_law_118 : decode cL_law 118 = .ok (.iadd, 1) := by decide +kernel
theorem dL_law_119 : decode cL_law 119 = .ok (.iaload, 1) := by decide +kernel
theorem dL_law_120 : decode cL_law 120 = .ok (.aload_n 0, 1) := by decide +kernel
theorem dL_law_121 : decode cL_law 121 = .ok (.iload_n 3, 1) := by decide +kernel
theorem dL_law_122 : decode cL_law 122 = .ok (.iconst 2, 1) := by decide +kernel
theorem dL_law_123 : decode cL_law 123 = .ok (.iadd, 1) := by decide +kernel
theorem dL_law_124 : decode cL_law 124 = .ok (.iaload, 1) := by decide +kernel
theorem dL_law_125 : decode cL_law 125 = .ok (.aload_n 0, 1) := by decide +kernel
theorem dL_law_126 : decode cL_law 126 = .ok (.iload_n 3, 1) := by decide +kernel
theorem dL_law_127 : decode cL_law 127 = .ok (.iconst 3, 1) := by decide +kernel
theorem dL_law_128 : decode cL_law 128 = .ok (.iadd, 1) := by decide +kernel
theorem dL_law_129 : decode cL_law 129 = .ok (.iaload, 1) := by decide +kernel
theorem dL_law_130 : decode cL_law 130 = .ok (.aload_n 0, 1) := by decide +kernel
theorem dL_law_131 : decode cL_law 131 = .ok (.iload_n 3, 1) := by decide +kernel
theorem dL_law_132 : decode cL_law 132 = .ok (.iconst 4, 1) := by decide +kernel
theorem dL_law_133 : decode cL_law 133 = .ok (.iadd, 1) := by decide +kernel
theorem dL_law_134 : decode cL_law 134 = .ok (.iaload, 1) := by decide +kernel
theorem dL_law_135 : decode cL_law 135 = .ok (.invokevirtual 18, 3) := by decide +kernel
theorem dL_law_138 : decode cL_law 138 = .ok (.aload_n 2, 1) := by decide +kernel
theorem dL_law_139 : decode cL_law 139 = .ok (.aload_n 0, 1) := by decide +kernel
theorem dL_law_140 : decode cL_law 140 = .ok (.iload_n 3, 1) := by decide +kernel
theorem dL_law_141 : decode cL_law 141 = .ok (.iconst 1, 1) := by decide +kernel
theorem dL_law_142 : decode cL_law 142 = .ok (.iadd, 1) := by decide +kernel
theorem dL_law_143 : decode cL_law 143 = .ok (.iaload, 1) := by decide +kernel
theorem dL_law_144 : decode cL_law 144 = .ok (.aload_n 0, 1) := by decide +kernel
theorem dL_law_145 : decode cL_law 145 = .ok (.iload_n 3, 1) := by decide +kernel
theorem dL_law_146 : decode cL_law 146 = .ok (.iconst 2, 1) := by decide +kernel
theorem dL_law_147 : decode cL_law 147 = .ok (.iadd, 1) := by decide +kernel
theorem dL_law_148 : decode cL_law 148 = .ok (.iaload, 1) := by decide +kernel
theorem dL_law_149 : decode cL_law 149 = .ok (.aload_n 0, 1) := by decide +kernel
theorem dL_law_150 : decode cL_law 150 = .ok (.iload_n 3, 1) := by decide +kernel
theorem dL_law_151 : decode cL_law 151 = .ok (.iconst 3, 1) := by decide +kernel
theorem dL_law_152 : decode cL_law 152 = .ok (.iadd, 1) := by decide +kernel
theorem dL_law_153 : decode cL_law 153 = .ok (.iaload, 1) := by decide +kernel
theorem dL_law_154 : decode cL_law 154 = .ok (.aload_n 0, 1) := by decide +kernel
theorem dL_law_155 : decode cL_law 155 = .ok (.iload_n 3, 1) := by decide +kernel
theorem dL_law_156 : decode cL_law 156 = .ok (.iconst 4, 1) := by decide +kernel
theorem dL_law_157 : decode cL_law 157 = .ok (.iadd, 1) := by decide +kernel
theorem dL_law_158 : decode cL_law 158 = .ok (.iaload, 1) := by decide +kernel
theorem dL_law_159 : decode cL_law 159 = .ok (.invokevirtual 21, 3) := by decide +kernel
theorem dL_law_162 : decode cL_law 162 = .ok (.lcmp, 1) := by decide +kernel
theorem dL_law_163 : decode cL_law 163 = .ok (.ifCond .eq 58, 3) := by decide +kernel
theorem dL_law_166 : decode cL_law 166 = .ok (.iconst 0, 1) := by decide +kernel
theorem dL_law_167 : decode cL_law 167 = .ok (.ireturn, 1) := by decide +kernel
theorem dL_law_168 : decode cL_law 168 = .ok (.aload_n 1, 1) := by decide +kernel
theorem dL_law_169 : decode cL_law 169 = .ok (.aload_n 0, 1) := by decide +kernel
theorem dL_law_170 : decode cL_law 170 = .ok (.iload_n 3, 1) := by decide +kernel
theorem dL_law_171 : decode cL_law 171 = .ok (.iconst 1, 1) := by decide +kernel
theorem dL_law_172 : decode cL_law 172 = .ok (.iadd, 1) := by decide +kernel
theorem dL_law_173 : decode cL_law 173 = .ok (.iaload, 1) := by decide +kernel
theorem dL_law_174 : decode cL_law 174 = .ok (.aload_n 0, 1) := by decide +kernel
theorem dL_law_175 : decode cL_law 175 = .ok (.iload_n 3, 1) := by decide +kernel
theorem dL_law_176 : decode cL_law 176 = .ok (.iconst 2, 1) := by decide +kernel
theorem dL_law_177 : decode cL_law 177 = .ok (.iadd, 1) := by decide +kernel
theorem dL_law_178 : decode cL_law 178 = .ok (.iaload, 1) := by decide +kernel
theorem dL_law_179 : decode cL_law 179 = .ok (.aload_n 0, 1) := by decide +kernel
theorem dL_law_180 : decode cL_law 180 = .ok (.iload_n 3, 1) := by decide +kernel
theorem dL_law_181 : decode cL_law 181 = .ok (.iconst 3, 1) := by decide +kernel
theorem dL_law_182 : decode cL_law 182 = .ok (.iadd, 1) := by decide +kernel
theorem dL_law_183 : decode cL_law 183 = .ok (.iaload, 1) := by decide +kernel
theorem dL_law_184 : decode cL_law 184 = .ok (.aload_n 0, 1) := by decide +kernel
theorem dL_law_185 : decode cL_law 185 = .ok (.iload_n 3, 1) := by decide +kernel
theorem dL_law_186 : decode cL_law 186 = .ok (.iconst 4, 1) := by decide +kernel
theorem dL_law_187 : decode cL_law 187 = .ok (.iadd, 1) := by decide +kernel
theorem dL_law_188 : decode cL_law 188 = .ok (.iaload, 1) := by decide +kernel
theorem dL_law_189 : decode cL_law 189 = .ok (.invokevirtual 22, 3) := by decide +kernel
theorem dL_law_192 : decode cL_law 192 = .ok (.aload_n 2, 1) := by decide +kernel
theorem dL_law_193 : decode cL_law 193 = .ok (.aload_n 0, 1) := by decide +kernel
theorem dL_law_194 : decode cL_law 194 = .ok (.iload_n 3, 1) := by decide +kernel
theorem dL_law_195 : decode cL_law 195 = .ok (.iconst 1, 1) := by decide +kernel
theorem dL_law_196 : decode cL_law 196 = .ok (.iadd, 1) := by decide +kernel
theorem dL_law_197 : decode cL_law 197 = .ok (.iaload, 1) := by decide +kernel
theorem dL_law_198 : decode cL_law 198 = .ok (.aload_n 0, 1) := by decide +kernel
theorem dL_law_199 : decode cL_law 199 = .ok (.iload_n 3, 1) := by decide +kernel
theorem dL_law_200 : decode cL_law 200 = .ok (.iconst 2, 1) := by decide +kernel
theorem dL_law_201 : decode cL_law 201 = .ok (.iadd, 1) := by decide +kernel
theorem dL_law_202 : decode cL_law 202 = .ok (.iaload, 1) := by decide +kernel
theorem dL_law_203 : decode cL_law 203 = .ok (.aload_n 0, 1) := by decide +kernel
theorem dL_law_204 : decode cL_law 204 = .ok (.iload_n 3, 1) := by decide +kernel
theorem dL_law_205 : decode cL_law 205 = .ok (.iconst 3, 1) := by decide +kernel
theorem dL_law_206 : decode cL_law 206 = .ok (.iadd, 1) := by decide +kernel
theorem dL_law_207 : decode cL_law 207 = .ok (.iaload, 1) := by decide +kernel
theorem dL_law_208 : decode cL_law 208 = .ok (.aload_n 0, 1) := by decide +kernel
theorem dL_law_209 : decode cL_law 209 = .ok (.iload_n 3, 1) := by decide +kernel
theorem dL_law_210 : decode cL_law 210 = .ok (.iconst 4, 1) := by decide +kernel
theorem dL_law_211 : decode cL_law 211 = .ok (.iadd, 1) := by decide +kernel
theorem dL_law_212 : decode cL_law 212 = .ok (.iaload, 1) := by decide +kernel
theorem dL_law_213 : decode cL_law 213 = .ok (.invokevirtual 26, 3) := by decide +kernel
theorem dL_law_216 : decode cL_law 216 = .ok (.if_icmp .eq 5, 3) := by decide +kernel
theorem dL_law_219 : decode cL_law 219 = .ok (.iconst 0, 1) := by decide +kernel
theorem dL_law_220 : decode cL_law 220 = .ok (.ireturn, 1) := by decide +kernel
theorem dL_law_221 : decode cL_law 221 = .ok (.iinc 3 6, 3) := by decide +kernel
theorem dL_law_224 : decode cL_law 224 = .ok (.goto (-206), 3) := by decide +kernel
theorem dL_law_227 : decode cL_law 227 = .ok (.iconst 1, 1) := by decide +kernel
theorem dL_law_228 : decode cL_law 228 = .ok (.ireturn, 1) := by decide +kernel
end
section
/-! numbers: a long read as unsigned (rows of kit/laws/BITS.to-paste, family uN), then this claim's own laws -/
def uN (x : Int64) : Nat := x.toUInt64.toNat
theorem uN_lt (x : Int64) : uN x < 18446744073709551616 := x.toUInt64.toNat_lt
theorem uN_inj {x y : Int64} (h : uN x = uN y) : x = y := congrArg UInt64.toInt64 (UInt64.toNat_inj.mp h)
theorem uN_add (x y : Int64) : uN (x + y) = (uN x + uN y) % 18446744073709551616 := by
  show (x.toUInt64 + y.toUInt64).toNat = _
  exact UInt64.toNat_add _ _
theorem uN_mul (x y : Int64) : uN (x * y) = (uN x * uN y) % 18446744073709551616 := by
  show (x.toUInt64 * y.toUInt64).toNat = _
  exact UInt64.toNat_mul _ _
theorem uN_shl (x : Int64) : uN (x <<< ((1 : Int32).toInt64 &&& 63)) = (2 * uN x) % 18446744073709551616 := by
  have h : (((1 : Int32).toInt64 &&& 63).toBitVec.smod 64).toNat = 1 := by decide
  show (x.toBitVec <<< (((1 : Int32).toInt64 &&& 63).toBitVec.smod 64).toNat).toNat = _
  rw [h, BitVec.toNat_shiftLeft, Nat.shiftLeft_eq, Nat.mul_comm]
  rfl
theorem uN_shr (x : Int64) (s : UInt64) : uN (x.toUInt64 >>> s).toInt64 = uN x / 2 ^ (s.toNat % 64) := by
  show (x.toUInt64 >>> s).toNat = _
  rw [UInt64.toNat_shiftRight, Nat.shiftRight_eq_div_pow]
  rfl
theorem uN_s32 (x : Int64) : uN (x.toUInt64 >>> ((32 : Int32).toInt64.toUInt64 &&& Int64.toUInt64 63)).toInt64 = uN x / 4294967296 := by
  have h : ((32 : Int32).toInt64.toUInt64 &&& Int64.toUInt64 63).toNat % 64 = 32 := by decide
  rw [uN_shr, h]
theorem uN_s63 (x : Int64) : uN (x.toUInt64 >>> ((63 : Int32).toInt64.toUInt64 &&& Int64.toUInt64 63)).toInt64 = uN x / 9223372036854775808 := by
  have h : ((63 : Int32).toInt64.toUInt64 &&& Int64.toUInt64 63).toNat % 64 = 63 := by decide
  rw [uN_shr, h]
theorem uN_lo (x : Int64) : uN (x &&& 4294967295) = uN x % 4294967296 := by
  show (x.toUInt64 &&& Int64.toUInt64 4294967295).toNat = _
  rw [UInt64.toNat_and]
  exact Nat.and_two_pow_sub_one_eq_mod _ 32
theorem uN_bit (x : Int64) : (x &&& 1) = 0 ↔ uN x % 2 = 0 := by
  have h : uN (x &&& 1) = uN x % 2 := by
    show (x.toUInt64 &&& Int64.toUInt64 1).toNat = _
    rw [UInt64.toNat_and]
    exact Nat.and_two_pow_sub_one_eq_mod _ 1
  rw [← h]
  exact ⟨fun z => by rw [z]; rfl, fun z => uN_inj (z.trans rfl)⟩
theorem uN_or {x y : Int64} (hy : uN y < 2) : uN ((x <<< ((1 : Int32).toInt64 &&& 63)) ||| y) = (2 * uN x) % 18446744073709551616 + uN y := by
  have h1 : uN ((x <<< ((1 : Int32).toInt64 &&& 63)) ||| y) = uN (x <<< ((1 : Int32).toInt64 &&& 63)) ||| uN y := UInt64.toNat_or _ _
  have h2 : (2 * uN x) % 18446744073709551616 = 2 ^ 1 * (uN x % 9223372036854775808) := by omega
  rw [h1, uN_shl, h2]
  exact (Nat.two_pow_add_eq_or_of_lt (i := 1) hy _).symm
theorem nat_xor {a : Nat} (h : a < 18446744073709551616) : a ^^^ 2 ^ 63 = (a + 9223372036854775808) % 18446744073709551616 := by
  have h1 : (a ^^^ 2 ^ 63) % 2 ^ 63 = a % 2 ^ 63 := by rw [Nat.xor_mod_two_pow, Nat.mod_self, Nat.xor_zero]
  have h2 : (a ^^^ 2 ^ 63) / 2 ^ 63 = (a / 2 ^ 63) ^^^ 1 := by rw [Nat.xor_div_two_pow, Nat.div_self (Nat.two_pow_pos 63)]
  have h3 : a / 2 ^ 63 = 0 ∨ a / 2 ^ 63 = 1 := by omega
  generalize a ^^^ 2 ^ 63 = t at h1 h2
  rcases h3 with h3 | h3
  · rw [h3] at h2
    have h2 : t / 2 ^ 63 = 1 := h2
    omega
  · rw [h3] at h2
    have h2 : t / 2 ^ 63 = 0 := h2
    omega
theorem uN_xor (x : Int64) : uN (x ^^^ (-9223372036854775808)) = (uN x + 9223372036854775808) % 18446744073709551616 := by
  rw [← nat_xor (uN_lt x)]
  exact UInt64.toNat_xor _ _
theorem uN_int (x : Int64) : x.toInt = if 2 * uN x < 18446744073709551616 then (uN x : Int) else (uN x : Int) - 18446744073709551616 := BitVec.toInt_eq_toNat_cond _
theorem uN_le (x y : Int64) : (x ^^^ (-9223372036854775808)) ≤ (y ^^^ (-9223372036854775808)) ↔ uN x ≤ uN y := by
  have hx := uN_lt x
  have hy := uN_lt y
  rw [Int64.le_iff_toInt_le, uN_int, uN_int, uN_xor, uN_xor]
  omega
theorem uN_sk (x : Int64) {k : Nat} (hk : k < 64) : uN (x.toUInt64 >>> ((nI k).toInt64.toUInt64 &&& Int64.toUInt64 63)).toInt64 = uN x / 2 ^ k := by
  have h : ((nI k).toInt64.toUInt64 &&& Int64.toUInt64 63).toNat % 64 = k := by
    rw [nI_l (by omega), UInt64.toNat_and]
    have e : (lN k).toUInt64.toNat = k % 2 ^ 64 := rfl
    have e2 : (Int64.toUInt64 63).toNat = 2 ^ 6 - 1 := by decide
    rw [e, e2, Nat.and_two_pow_sub_one_eq_mod]
    omega
  rw [uN_shr, h]
/-! ===== this claim's own laws ===== -/
theorem ud_lN {n : Nat} (h : n < 18446744073709551616) : uN (lN n) = n := by
  have e : (lN n).toUInt64.toNat = n % 2 ^ 64 := rfl
  show (lN n).toUInt64.toNat = n
  rw [e]
  exact Nat.mod_eq_of_lt h
theorem ud_of (x : Int64) : lN (uN x) = x := uN_inj (ud_lN (uN_lt x))
theorem ud_sub (x y : Int64) : uN (x - y) = (18446744073709551616 - uN y + uN x) % 18446744073709551616 := by
  show (x.toUInt64 - y.toUInt64).toNat = _
  exact UInt64.toNat_sub _ _
theorem ud_neg (x : Int64) : x < 0 ↔ 9223372036854775808 ≤ uN x := by
  have h := uN_lt x
  rw [Int64.lt_iff_toInt_lt, uN_int x, show (0 : Int64).toInt = 0 from rfl]
  split <;> omega
theorem ud_zero (x : Int64) : x = 0 ↔ uN x = 0 := ⟨fun h => by rw [h]; rfl, fun h => uN_inj (h.trans rfl)⟩
theorem ud_ge0 {b : Int64} (h : 0 ≤ lg_cmp b 0) : ¬ b < 0 := by
  have h1 := (lg_cmp_ge b 0).mp h
  rw [Int64.le_iff_toInt_le] at h1
  rw [Int64.lt_iff_toInt_lt]
  omega
theorem ud_lt0 {b : Int64} (h : ¬ 0 ≤ lg_cmp b 0) : b < 0 := by
  rw [lg_cmp_ge, Int64.le_iff_toInt_le] at h
  rw [Int64.lt_iff_toInt_lt]
  omega
/-! the three answers of a comparison -/
def ud_sc (a b : Int64) : Int32 := if a < b then -1 else if a = b then 0 else 1
def ud_cmp (a b : Int64) : Int32 := if uN a < uN b then -1 else if uN a = uN b then 0 else 1
theorem ud_flip (a b : Int64) : ud_sc (a ^^^ (-9223372036854775808)) (b ^^^ (-9223372036854775808)) = ud_cmp a b := by
  have h := uN_le b a
  have h' := uN_le a b
  rw [Int64.le_iff_toInt_le] at h h'
  have h1 : (a ^^^ (-9223372036854775808)) < (b ^^^ (-9223372036854775808)) ↔ uN a < uN b := by
    rw [Int64.lt_iff_toInt_lt]
    omega
  have h2 : (a ^^^ (-9223372036854775808)) = (b ^^^ (-9223372036854775808)) ↔ uN a = uN b := by
    rw [← Int64.toInt_inj]
    omega
  unfold ud_sc ud_cmp
  simp only [h1, h2]
theorem ud_sc1 {a b : Int64} (h : ¬ 0 ≤ lg_cmp a b) : (-1 : Int32) = ud_sc a b := by
  rw [lg_cmp_ge, Int64.le_iff_toInt_le] at h
  have h1 : a < b := by rw [Int64.lt_iff_toInt_lt]; omega
  unfold ud_sc
  rw [if_pos h1]
theorem ud_sc2 {a b : Int64} (h : lg_cmp a b = 0) : (0 : Int32) = ud_sc a b := by
  have h1 := (lg_cmp_eq a b).mp h
  subst h1
  have h2 : ¬ a < a := by rw [Int64.lt_iff_toInt_lt]; omega
  unfold ud_sc
  rw [if_neg h2, if_pos rfl]
theorem ud_sc3 {a b : Int64} (h : 0 ≤ lg_cmp a b) (h2 : ¬ lg_cmp a b = 0) : (1 : Int32) = ud_sc a b := by
  rw [lg_cmp_ge, Int64.le_iff_toInt_le] at h
  rw [lg_cmp_eq] at h2
  have h1 : ¬ a < b := by rw [Int64.lt_iff_toInt_lt]; omega
  unfold ud_sc
  rw [if_neg h1, if_neg h2]
theorem ud_cmp_cases (a b : Int64) : (ud_cmp a b = -1 ∧ uN a < uN b) ∨ (ud_cmp a b = 0 ∧ uN a = uN b) ∨ (ud_cmp a b = 1 ∧ uN b < uN a) := by
  unfold ud_cmp
  by_cases h : uN a < uN b
  · exact Or.inl ⟨if_pos h, h⟩
  · rw [if_neg h]
    by_cases h2 : uN a = uN b
    · exact Or.inr (Or.inl ⟨if_pos h2, h2⟩)
    · exact Or.inr (Or.inr ⟨if_neg h2, by omega⟩)
theorem ud_cmp_lt (a b : Int64) : ud_cmp a b < 0 ↔ uN a < uN b := by
  rcases ud_cmp_cases a b with ⟨e, h⟩ | ⟨e, h⟩ | ⟨e, h⟩ <;> rw [e]
  · exact ⟨fun _ => h, fun _ => by decide⟩
  · exact ⟨fun q => absurd q (by decide), fun q => absurd q (by omega)⟩
  · exact ⟨fun q => absurd q (by decide), fun q => absurd q (by omega)⟩
theorem ud_cmp_ge (a b : Int64) : 0 ≤ ud_cmp a b ↔ ¬ uN a < uN b := by
  rcases ud_cmp_cases a b with ⟨e, h⟩ | ⟨e, h⟩ | ⟨e, h⟩ <;> rw [e]
  · exact ⟨fun q => absurd q (by decide), fun q => absurd h q⟩
  · exact ⟨fun _ => by omega, fun _ => by decide⟩
  · exact ⟨fun _ => by omega, fun _ => by decide⟩
/-- the desk's own three answers out of the class's -/
theorem ud_cmp3 (a b : Int64) : (¬ 0 ≤ ud_cmp a b → (-1 : Int32) = ud_cmp a b) ∧ (0 ≤ ud_cmp a b → ud_cmp a b ≤ 0 → (0 : Int32) = ud_cmp a b) ∧ (¬ ud_cmp a b ≤ 0 → (1 : Int32) = ud_cmp a b) := by
  rcases ud_cmp_cases a b with ⟨e, h⟩ | ⟨e, h⟩ | ⟨e, h⟩ <;> rw [e] <;> decide
/-- the model's -/
theorem ud_cmpM (a b : Int64) : (uN a < uN b → (-1 : Int32) = ud_cmp a b) ∧ (¬ uN a < uN b → lg_cmp a b = 0 → (0 : Int32) = ud_cmp a b) ∧ (¬ uN a < uN b → ¬ lg_cmp a b = 0 → (1 : Int32) = ud_cmp a b) := by
  unfold ud_cmp
  refine ⟨fun h => by rw [if_pos h], fun h h2 => ?_, fun h h2 => ?_⟩
  · rw [if_neg h, if_pos (by rw [(lg_cmp_eq a b).mp h2])]
  · rw [if_neg h, if_neg (fun q => h2 ((lg_cmp_eq a b).mpr (uN_inj q)))]
/-! quotient and remainder of unsigned numbers -/
def ud_div (a b : Int64) : Int64 := lN (uN a / uN b)
def ud_rem (a b : Int64) : Int64 := lN (uN a % uN b)
theorem ud_div_of {a b r : Int64} (h : uN r = uN a / uN b) : r = ud_div a b := by
  refine uN_inj ?_
  rw [h]
  exact (ud_lN (Nat.lt_of_le_of_lt (Nat.div_le_self _ _) (uN_lt a))).symm
theorem ud_rem_of {a b r : Int64} (h : uN r = uN a % uN b) : r = ud_rem a b := by
  refine uN_inj ?_
  rw [h]
  exact (ud_lN (Nat.lt_of_le_of_lt (Nat.mod_le _ _) (uN_lt a))).symm
theorem ud_big {A B : Nat} (hA : A < 18446744073709551616) (hB : 9223372036854775808 ≤ B) : (A < B → A / B = 0 ∧ A % B = A) ∧ (¬ A < B → A / B = 1 ∧ A % B = A - B) := by
  refine ⟨fun h => ⟨Nat.div_eq_of_lt h, Nat.mod_eq_of_lt h⟩, fun h => ?_⟩
  have z : A - B < B := by omega
  constructor
  · rw [Nat.div_eq_sub_div (by omega) (by omega), Nat.div_eq_of_lt z]
  · rw [Nat.mod_eq_sub_mod (by omega), Nat.mod_eq_of_lt z]
theorem ud_d1 {a b : Int64} (hb : b < 0) (h : uN a < uN b) : (0 : Int64) = ud_div a b ∧ a = ud_rem a b := by
  obtain ⟨x1, x2⟩ := (ud_big (uN_lt a) ((ud_neg b).mp hb)).1 h
  exact ⟨ud_div_of (by rw [x1]; rfl), ud_rem_of x2.symm⟩
theorem ud_d2 {a b : Int64} (hb : b < 0) (h : ¬ uN a < uN b) : (1 : Int64) = ud_div a b ∧ a - b = ud_rem a b := by
  obtain ⟨x1, x2⟩ := (ud_big (uN_lt a) ((ud_neg b).mp hb)).2 h
  refine ⟨ud_div_of (by rw [x1]; rfl), ud_rem_of ?_⟩
  have h1 := uN_lt a
  have h2 := uN_lt b
  rw [x2, ud_sub]
  omega
theorem ud_quo {x y : Int64} (hx : uN x < 9223372036854775808) (h0 : ¬ uN y = 0) (hy : uN y < 9223372036854775808) : uN (x / y) = uN x / uN y := by
  have h := pk_lDiv (a := uN x) (b := uN y) hx (by omega) hy
  rw [ud_of, ud_of] at h
  rw [h]
  exact ud_lN (Nat.lt_of_le_of_lt (Nat.div_le_self _ _) (uN_lt x))
theorem ud_rmd {x y : Int64} (hx : uN x < 9223372036854775808) (h0 : ¬ uN y = 0) (hy : uN y < 9223372036854775808) : uN (x - x / y * y) = uN x % uN y := by
  have h := pk_lRem (a := uN x) (b := uN y) hx (by omega) hy
  rw [ud_of, ud_of] at h
  rw [h]
  exact ud_lN (Nat.lt_of_le_of_lt (Nat.mod_le _ _) (uN_lt x))
theorem ud_d3 {a b : Int64} (h0 : ¬ b = 0) (hb : ¬ b < 0) (ha : ¬ a < 0) : a / b = ud_div a b ∧ a - a / b * b = ud_rem a b := by
  rw [ud_zero] at h0
  rw [ud_neg] at hb ha
  exact ⟨ud_div_of (ud_quo (by omega) h0 (by omega)), ud_rem_of (ud_rmd (by omega) h0 (by omega))⟩
theorem ud_half {A B k R : Nat} (hB : 0 < B) (hk : k = A / 2 / B) (hR : R = A - 2 * (B * k)) : 2 * (B * k) ≤ A ∧ R < 2 * B ∧ (R < B → A / B = 2 * k ∧ A % B = R) ∧ (¬ R < B → A / B = 2 * k + 1 ∧ A % B = R - B) := by
  have h1 := Nat.div_add_mod (A / 2) B
  have h2 := Nat.mod_lt (A / 2) hB
  rw [← hk] at h1
  generalize A / 2 % B = z at h1 h2
  generalize hT : B * k = T at h1 hR ⊢
  have h3 : 2 * T ≤ A := by omega
  have h4 : R < 2 * B := by omega
  have e0 : B * (2 * k) = 2 * T := by rw [Nat.mul_left_comm, hT]
  have e : A = R + B * (2 * k) := by rw [e0]; omega
  have d : A / B = R / B + 2 * k := (congrArg (· / B) e).trans (Nat.add_mul_div_left _ _ hB)
  have f : A % B = R % B := (congrArg (· % B) e).trans (Nat.add_mul_mod_self_left _ _ _)
  refine ⟨h3, h4, fun h => ?_, fun h => ?_⟩
  · rw [d, f, Nat.div_eq_of_lt h, Nat.mod_eq_of_lt h]
    exact ⟨Nat.zero_add _, rfl⟩
  · have z1 : R - B < B := by omega
    rw [d, f, Nat.div_eq_sub_div hB (by omega), Nat.mod_eq_sub_mod (by omega), Nat.div_eq_of_lt z1, Nat.mod_eq_of_lt z1]
    exact ⟨by omega, rfl⟩
theorem ud_s1 (a : Int64) : uN (a.toUInt64 >>> ((1 : Int32).toInt64.toUInt64 &&& Int64.toUInt64 63)).toInt64 = uN a / 2 := by
  have h : ((1 : Int32).toInt64.toUInt64 &&& Int64.toUInt64 63).toNat % 64 = 1 := by decide
  rw [uN_shr, h]
/-- the first guess, twice the quotient of the half, and what it leaves -/
theorem ud_guess {a b h q r : Int64} (h0 : ¬ uN b = 0) (hb : uN b < 9223372036854775808) (eh : uN h = uN a / 2) (hq : q = (h / b) <<< ((1 : Int32).toInt64 &&& 63)) (hr : r = a - q * b) :
    (uN r < uN b → uN q = uN a / uN b ∧ uN r = uN a % uN b) ∧ (¬ uN r < uN b → uN (q + 1) = uN a / uN b ∧ uN (r - b) = uN a % uN b) := by
  have hA := uN_lt a
  have et := ud_quo (x := h) (y := b) (by omega) h0 hb
  rw [eh] at et
  generalize h / b = t at hq et
  have eq1 := uN_shl t
  rw [← hq] at eq1
  obtain ⟨g1, g2, g3, g4⟩ := ud_half (A := uN a) (B := uN b) (k := uN t) (by omega) et rfl
  have hk : uN t ≤ uN b * uN t := Nat.le_mul_of_pos_left _ (by omega)
  have eq2 : uN q = 2 * uN t := by rw [eq1]; exact Nat.mod_eq_of_lt (by omega)
  have em := uN_mul q b
  rw [eq2, Nat.mul_assoc, Nat.mul_comm (uN t) (uN b), Nat.mod_eq_of_lt (by omega)] at em
  have er := ud_sub a (q * b)
  rw [← hr, em] at er
  have er2 : uN r = uN a - 2 * (uN b * uN t) := by rw [er]; omega
  rw [← er2] at g2 g3 g4
  refine ⟨fun z => ?_, fun z => ?_⟩
  · obtain ⟨x1, x2⟩ := g3 z
    exact ⟨by rw [eq2, x1], x2.symm⟩
  · obtain ⟨x1, x2⟩ := g4 z
    have b1 := uN_add q 1
    have b2 := ud_sub r b
    have o1 : uN (1 : Int64) = 1 := rfl
    have hd := Nat.div_le_self (uN a) (uN b)
    have hb2 := uN_lt r
    refine ⟨?_, ?_⟩
    · rw [b1, o1, eq2, Nat.mod_eq_of_lt (by omega), x1]
    · rw [b2, x2]
      omega
theorem ud_d4 {a b q r : Int64} (h0 : ¬ b = 0) (hb : ¬ b < 0) (hq : q = ((a.toUInt64 >>> ((1 : Int32).toInt64.toUInt64 &&& Int64.toUInt64 63)).toInt64 / b) <<< ((1 : Int32).toInt64 &&& 63)) (hr : r = a - q * b) :
    (uN r < uN b → q + 0 = ud_div a b ∧ r - 0 = ud_rem a b) ∧ (¬ uN r < uN b → q + 1 = ud_div a b ∧ r - b = ud_rem a b) := by
  rw [ud_zero] at h0
  rw [ud_neg] at hb
  obtain ⟨g1, g2⟩ := ud_guess (a := a) (b := b) h0 (by omega) (ud_s1 a) hq hr
  refine ⟨fun z => ?_, fun z => ?_⟩
  · obtain ⟨x1, x2⟩ := g1 z
    rw [Int64.add_zero, Int64.sub_zero]
    exact ⟨ud_div_of x1, ud_rem_of x2⟩
  · obtain ⟨x1, x2⟩ := g2 z
    exact ⟨ud_div_of x1, ud_rem_of x2⟩
/-! bits from the top: less -/
theorem ud_a1 (x : Int64) : uN (x &&& 1) = uN x % 2 := by
  show (x.toUInt64 &&& Int64.toUInt64 1).toNat = _
  rw [UInt64.toNat_and]
  exact Nat.and_two_pow_sub_one_eq_mod _ 1
theorem ud_bit (x : Int64) {k : Nat} (hk : k < 64) : uN ((x.toUInt64 >>> ((nI k).toInt64.toUInt64 &&& Int64.toUInt64 63)).toInt64 &&& 1) = uN x / 2 ^ k % 2 := by
  rw [ud_a1, uN_sk x hk]
theorem ud_pre (X n : Nat) : X / 2 ^ n = 2 * (X / 2 ^ (n + 1)) + X / 2 ^ n % 2 := by
  rw [Nat.pow_succ, ← Nat.div_div_eq_div_mul]
  generalize X / 2 ^ n = z
  omega
theorem ud_less {X Y n : Nat} (h : X / 2 ^ (n + 1) = Y / 2 ^ (n + 1)) : (X / 2 ^ n % 2 < Y / 2 ^ n % 2 → X < Y) ∧ (Y / 2 ^ n % 2 < X / 2 ^ n % 2 → ¬ X < Y) ∧ (X / 2 ^ n % 2 = Y / 2 ^ n % 2 → X / 2 ^ n = Y / 2 ^ n) := by
  have hX := ud_pre X n
  have hY := ud_pre Y n
  have m1 : Y ≤ X → Y / 2 ^ n ≤ X / 2 ^ n := fun q => Nat.div_le_div_right q
  have m2 : X ≤ Y → X / 2 ^ n ≤ Y / 2 ^ n := fun q => Nat.div_le_div_right q
  rw [h] at hX
  generalize Y / 2 ^ (n + 1) = w at hX hY
  generalize X / 2 ^ n = u at hX m1 m2 ⊢
  generalize Y / 2 ^ n = v at hY m1 m2 ⊢
  refine ⟨fun z => ?_, fun z z2 => ?_, fun z => ?_⟩
  · exact Nat.lt_of_not_le fun q => by have := m1 q; omega
  · have := m2 (Nat.le_of_lt z2)
    omega
  · omega
theorem ud_small {a b : Int64} (ha : uN a < 2) (hb : uN b < 2) : b ≤ a ↔ uN b ≤ uN a := by
  rw [Int64.le_iff_toInt_le, uN_int a, uN_int b, if_pos (by omega), if_pos (by omega)]
  omega
theorem ud_le1 (x y : Int64) : uN x / 2 ^ 64 = uN y / 2 ^ 64 := by
  have h1 : uN x / 2 ^ 64 = 0 := Nat.div_eq_of_lt (uN_lt x)
  have h2 : uN y / 2 ^ 64 = 0 := Nat.div_eq_of_lt (uN_lt y)
  rw [h1, h2]
/-- one bit of both numbers, as the loop of less reads it -/
theorem ud_lessB {x y a b : Int64} {n : Nat} (hn : n < 64) (h : uN x / 2 ^ (n + 1) = uN y / 2 ^ (n + 1)) (ea : a = (x.toUInt64 >>> ((nI n).toInt64.toUInt64 &&& Int64.toUInt64 63)).toInt64 &&& 1) (eb : b = (y.toUInt64 >>> ((nI n).toInt64.toUInt64 &&& Int64.toUInt64 63)).toInt64 &&& 1) :
    (lg_cmp a b = 0 → uN x / 2 ^ n = uN y / 2 ^ n) ∧ (¬ lg_cmp a b = 0 → 0 ≤ lg_cmp a b → (0 : Int32) = if uN x < uN y then 1 else 0) ∧ (¬ 0 ≤ lg_cmp a b → (1 : Int32) = if uN x < uN y then 1 else 0) := by
  have ga := ud_bit x hn
  have gb := ud_bit y hn
  rw [← ea] at ga
  rw [← eb] at gb
  obtain ⟨g1, g2, g3⟩ := ud_less h
  have sm := ud_small (a := a) (b := b) (by omega) (by omega)
  rw [← ga, ← gb] at g1 g2 g3
  refine ⟨fun z => ?_, fun z z2 => ?_, fun z => ?_⟩
  · rw [lg_cmp_eq] at z
    exact g3 (by rw [z])
  · rw [lg_cmp_eq] at z
    rw [lg_cmp_ge, sm] at z2
    have z3 : uN a ≠ uN b := fun q => z (uN_inj q)
    rw [if_neg (g2 (by omega))]
  · rw [lg_cmp_ge, sm] at z
    rw [if_pos (g1 (by omega))]
/-! long division bit by bit: run -/
theorem ud_nat {P Y Q R b : Nat} (hY : 0 < Y) (hQ : Q = P / Y) (hR : R = P % Y) (hb : b < 2) : R < Y ∧ Q ≤ P ∧ (2 * R + b < Y → (2 * P + b) / Y = 2 * Q ∧ (2 * P + b) % Y = 2 * R + b) ∧ (¬ 2 * R + b < Y → (2 * P + b) / Y = 2 * Q + 1 ∧ (2 * P + b) % Y = 2 * R + b - Y) := by
  have h1 := Nat.div_add_mod P Y
  have h2 := Nat.mod_lt P hY
  have h3 := Nat.div_le_self P Y
  rw [← hQ, ← hR] at h1
  rw [← hR] at h2
  rw [← hQ] at h3
  have e0 : Y * (2 * Q) = 2 * (Y * Q) := Nat.mul_left_comm _ _ _
  have e : 2 * P + b = (2 * R + b) + Y * (2 * Q) := by rw [e0]; omega
  have d : (2 * P + b) / Y = (2 * R + b) / Y + 2 * Q := (congrArg (· / Y) e).trans (Nat.add_mul_div_left _ _ hY)
  have f : (2 * P + b) % Y = (2 * R + b) % Y := (congrArg (· % Y) e).trans (Nat.add_mul_mod_self_left _ _ _)
  refine ⟨h2, h3, fun h => ?_, fun h => ?_⟩
  · rw [d, f, Nat.div_eq_of_lt h, Nat.mod_eq_of_lt h]
    exact ⟨Nat.zero_add _, rfl⟩
  · have z1 : 2 * R + b - Y < Y := by omega
    rw [d, f, Nat.div_eq_sub_div hY (by omega), Nat.mod_eq_sub_mod (by omega), Nat.div_eq_of_lt z1, Nat.mod_eq_of_lt z1]
    exact ⟨by omega, rfl⟩
theorem ud_step {q r c y q1 r1 : Int64} {P : Nat} (hy : ¬ uN y = 0) (hq : uN q = P / uN y) (hr : uN r = P % uN y) (hc : uN c < 2) (hP : 2 * P + uN c < 18446744073709551616) (eq1 : q1 = q <<< ((1 : Int32).toInt64 &&& 63)) (er1 : r1 = (r <<< ((1 : Int32).toInt64 &&& 63)) ||| c) :
    ((9223372036854775808 ≤ uN r ∨ ¬ uN r1 < uN y) → uN (q1 ||| 1) = (2 * P + uN c) / uN y ∧ uN (r1 - y) = (2 * P + uN c) % uN y) ∧ (¬ 9223372036854775808 ≤ uN r → uN r1 < uN y → uN q1 = (2 * P + uN c) / uN y ∧ uN r1 = (2 * P + uN c) % uN y) := by
  have lr := uN_lt r
  have ly := uN_lt y
  obtain ⟨g1, g2, g3, g4⟩ := ud_nat (by omega) hq hr hc
  have f1 : uN q1 = 2 * uN q := by
    rw [eq1, uN_shl]
    omega
  have f2 : uN r1 = (2 * uN r) % 18446744073709551616 + uN c := by rw [er1]; exact uN_or hc
  have f3 : uN (q1 ||| 1) = 2 * uN q + 1 := by
    have o1 : uN (1 : Int64) = 1 := rfl
    have o2 : uN (1 : Int64) < 2 := by rw [o1]; decide
    rw [eq1, uN_or o2, o1]
    omega
  refine ⟨fun z => ?_, fun z z2 => ?_⟩
  · have n1 : ¬ 2 * uN r + uN c < uN y := by omega
    obtain ⟨x1, x2⟩ := g4 n1
    rw [x1, x2, f3, ud_sub, f2]
    refine ⟨rfl, ?_⟩
    omega
  · have n1 : 2 * uN r + uN c < uN y := by omega
    obtain ⟨x1, x2⟩ := g3 n1
    rw [x1, x2, f1, f2]
    refine ⟨rfl, ?_⟩
    omega
/-- a step of run's loop, with the bit it reads -/
theorem ud_runB {x y q r q1 r1 : Int64} {n : Nat} (hn : n < 64) (hy : ¬ uN y = 0) (hq : uN q = uN x / 2 ^ (n + 1) / uN y) (hr : uN r = uN x / 2 ^ (n + 1) % uN y) (eq1 : q1 = q <<< ((1 : Int32).toInt64 &&& 63)) (er1 : r1 = (r <<< ((1 : Int32).toInt64 &&& 63)) ||| ((x.toUInt64 >>> ((nI n).toInt64.toUInt64 &&& Int64.toUInt64 63)).toInt64 &&& 1)) :
    ((r < 0 ∨ ¬ uN r1 < uN y) → uN (q1 ||| 1) = uN x / 2 ^ n / uN y ∧ uN (r1 - y) = uN x / 2 ^ n % uN y) ∧ (¬ r < 0 → uN r1 < uN y → uN q1 = uN x / 2 ^ n / uN y ∧ uN r1 = uN x / 2 ^ n % uN y) := by
  have gb := ud_bit x hn
  have hp := ud_pre (uN x) n
  have hle : uN x / 2 ^ n ≤ uN x := Nat.div_le_self _ _
  have hX := uN_lt x
  rw [← gb] at hp
  have hc : uN ((x.toUInt64 >>> ((nI n).toInt64.toUInt64 &&& Int64.toUInt64 63)).toInt64 &&& 1) < 2 := by rw [gb]; exact Nat.mod_lt _ (by decide)
  have st := ud_step hy hq hr hc (by omega) eq1 er1
  rw [← hp, ← ud_neg] at st
  exact st
theorem ud_run0 (x y : Int64) : uN 0 = uN x / 2 ^ 64 / uN y ∧ uN 0 = uN x / 2 ^ 64 % uN y := by
  have o : uN (0 : Int64) = 0 := rfl
  have h1 : uN x / 2 ^ 64 = 0 := Nat.div_eq_of_lt (uN_lt x)
  rw [h1, Nat.zero_div, Nat.zero_mod, o]
  exact ⟨rfl, rfl⟩
theorem ud_runE {x y q r : Int64} (hq : uN q = uN x / 2 ^ 0 / uN y) (hr : uN r = uN x / 2 ^ 0 % uN y) : q = ud_div x y ∧ r = ud_rem x y := by
  rw [Nat.pow_zero, Nat.div_one] at hq hr
  exact ⟨ud_div_of hq, ud_rem_of hr⟩
/-! the words that both sides say -/
def ud_wide (h l : Int32) : Int64 := (h.toInt64 <<< ((32 : Int32).toInt64 &&& 63)) ||| (l.toInt64 &&& 4294967295)
def ud_D (a b c d : Int32) : Int64 := if ud_wide c d = 0 then -1 else ud_div (ud_wide a b) (ud_wide c d)
def ud_R (a b c d : Int32) : Int64 := if ud_wide c d = 0 then -1 else ud_rem (ud_wide a b) (ud_wide c d)
def ud_C (a b c d : Int32) : Int32 := ud_cmp (ud_wide a b) (ud_wide c d)
end
section
/-! MODULE UnsignedLongs: contracts of Long.compare, Longs.compare, UnsignedLongs.flip, compare, divide, remainder; no cell is touched (printed by gen/gen_parts.py) -/
set_option maxHeartbeats 4000000 in
set_option maxRecDepth 100000 in
/-- Long.compare -/
theorem met_J0_compare (l : Launch) (a : Int64) (b : Int64) : Met l yJ0_compare (ws_ yJ0_compare cJ0_compare 4 (some .int)) ({ frames := 0, cells := 0, slots := 0, locals := 0 }) (va_Pc [.long a, .long b] (fun _ => True)) (vp_Si (fun r => r = ud_sc a b)) 0 0 (fun _ => False) := by
  refine Met.ofW (cc := cJ0_compare) (maxL := 4) (ret := some .int) (by decide) rfl ?_
  intro p e s m args below meth c s₁ B hml hv
  obtain ⟨rfl, -⟩ := hv
  have hx := B.exec
  have hb := B.bytes
  have hr := B.returns
  have hts := atoms_spec (ws := ws_ yJ0_compare cJ0_compare 4 (some .int)) B.pre
  have hts : ∀ w ∈ lw_all, w.before _ s = true := fun w h => hts w (List.mem_cons_of_mem _ h)
  have hown : s.vm.findClass RJ0 = some m.cls := findClass_of_methodNamed B.named
  have hlocks := B.notSynchronized
  have hl := lv_entry ([.long a, .long b]) (n := 4) (Nat.le_of_ble_eq_true rfl)
  rw [lg_entry_eq]
  generalize (lg_sl ([.long a, .long b]) ++ List.replicate (4 - (lg_sl ([.long a, .long b])).length) Slot.unset).toArray = ls at hl ⊢
  have hl : lv_has ls 4 [(0, .long a), (2, .long b)] := hl
  refine lv_lload_n hx hb dJ0_compare_0 rfl (lv_at hl 0 rfl) ?_
  refine lv_lload_n hx hb dJ0_compare_1 rfl (lv_at hl 1 rfl) ?_
  refine W.lcmp hx hb dJ0_compare_2 ?_
  refine lv_if_ge (tgt := 10) hx hb dJ0_compare_3 (by decide) (fun c1 => ?_) (fun c1 => ?_)
  · refine lv_lload_n hx hb dJ0_compare_10 rfl (lv_at hl 0 rfl) ?_
    refine lv_lload_n hx hb dJ0_compare_11 rfl (lv_at hl 1 rfl) ?_
    refine W.lcmp hx hb dJ0_compare_12 ?_
    refine lv_if_ne (tgt := 20) hx hb dJ0_compare_13 (by decide) (fun c2 => ?_) (fun c2 => ?_)
    · refine lv_iconst (v := 1) hx hb dJ0_compare_20 (by decide) ?_
      exact W.iret hx hb hr (fun t ht hW => ⟨_, rfl, ud_sc3 c1 c2, ht⟩) t_nil dJ0_compare_21
    · refine lv_iconst (v := 0) hx hb dJ0_compare_16 (by decide) ?_
      refine lv_goto (tgt := 21) hx hb dJ0_compare_17 (by decide) ?_
      exact W.iret hx hb hr (fun t ht hW => ⟨_, rfl, ud_sc2 c2, ht⟩) t_nil dJ0_compare_21
  · refine lv_iconst (v := (-1)) hx hb dJ0_compare_6 (by decide) ?_
    refine lv_goto (tgt := 21) hx hb dJ0_compare_7 (by decide) ?_
    exact W.iret hx hb hr (fun t ht hW => ⟨_, rfl, ud_sc1 c1, ht⟩) t_nil dJ0_compare_21
set_option maxHeartbeats 4000000 in
set_option maxRecDepth 100000 in
/-- Longs.compare -/
theorem met_X3_compare (l : Launch) (a : Int64) (b : Int64) : Met l yX3_compare (ws_ yX3_compare cX3_compare 4 (some .int)) ({ frames := 1, cells := 0, slots := 0, locals := 23 }) (va_Pc [.long a, .long b] (fun _ => True)) (vp_Si (fun r => r = ud_sc a b)) 0 0 (fun _ => False) := by
  refine Met.ofW (cc := cX3_compare) (maxL := 4) (ret := some .int) (by decide) rfl ?_
  intro p e s m args below meth c s₁ B hml hv
  obtain ⟨rfl, -⟩ := hv
  have hx := B.exec
  have hb := B.bytes
  have hr := B.returns
  have hts := atoms_spec (ws := ws_ yX3_compare cX3_compare 4 (some .int)) B.pre
  have hts : ∀ w ∈ lw_all, w.before _ s = true := fun w h => hts w (List.mem_cons_of_mem _ h)
  have hown : s.vm.findClass RX3 = some m.cls := findClass_of_methodNamed B.named
  have hlocks := B.notSynchronized
  have hl := lv_entry ([.long a, .long b]) (n := 4) (Nat.le_of_ble_eq_true rfl)
  rw [lg_entry_eq]
  generalize (lg_sl ([.long a, .long b]) ++ List.replicate (4 - (lg_sl ([.long a, .long b])).length) Slot.unset).toArray = ls at hl ⊢
  have hl : lv_has ls 4 [(0, .long a), (2, .long b)] := hl
  refine lv_lload_n hx hb dX3_compare_0 rfl (lv_at hl 0 rfl) ?_
  refine lv_lload_n hx hb dX3_compare_1 rfl (lv_at hl 1 rfl) ?_
  refine vp_callSi (W.runS (As := [.long a, .long b]) (rest := []) ⟨hx, hb, hml, hown, hts⟩ (met_J0_compare l a b) (va_cwS 2 hts (lw_S q37 q38 q5 q39) rfl rfl rfl (by decide +kernel) ⟨Nat.le_of_ble_eq_true rfl, Nat.le_of_ble_eq_true rfl⟩) ⟨fun _ _ _ _ q => q, fun _ _ _ => ⟨rfl, trivial⟩⟩ rfl rfl hl.1 rfl (lv_room (Nat.le_of_ble_eq_true rfl)) dX3_compare_2 ⟨Nat.zero_le _, Nat.zero_le _⟩) (fun r1 h1 => ?_)
  exact W.iret hx hb hr (fun t ht hW => ⟨_, rfl, h1, ht⟩) t_nil dX3_compare_5
set_option maxHeartbeats 4000000 in
set_option maxRecDepth 100000 in
/-- flip: the sign bit -/
theorem met_X2_flip (l : Launch) (a : Int64) : Met l yX2_flip (ws_ yX2_flip cX2_flip 2 (some .long)) ({ frames := 0, cells := 0, slots := 0, locals := 0 }) (va_Pc [.long a] (fun _ => True)) (vp_Sl (fun r => r = a ^^^ (-9223372036854775808))) 0 0 (fun _ => False) := by
  refine Met.ofW (cc := cX2_flip) (maxL := 2) (ret := some .long) (by decide) rfl ?_
  intro p e s m args below meth c s₁ B hml hv
  obtain ⟨rfl, -⟩ := hv
  have hx := B.exec
  have hb := B.bytes
  have hr := B.returns
  have hts := atoms_spec (ws := ws_ yX2_flip cX2_flip 2 (some .long)) B.pre
  have hts : ∀ w ∈ lw_all, w.before _ s = true := fun w h => hts w (List.mem_cons_of_mem _ h)
  have hown : s.vm.findClass RX2 = some m.cls := findClass_of_methodNamed B.named
  have hlocks := B.notSynchronized
  have hl := lv_entry ([.long a]) (n := 2) (Nat.le_of_ble_eq_true rfl)
  rw [lg_entry_eq]
  generalize (lg_sl ([.long a]) ++ List.replicate (2 - (lg_sl ([.long a])).length) Slot.unset).toArray = ls at hl ⊢
  have hl : lv_has ls 2 [(0, .long a)] := hl
  refine lv_lload_n hx hb dX2_flip_0 rfl (lv_at hl 0 rfl) ?_
  refine lv_ldc2 hx hb hown (hts _ q33) dX2_flip_1 ?_
  refine lv_lxor hx hb dX2_flip_4 ?_
  exact W.lret hx hb hr (fun t ht hW => ⟨_, rfl, rfl, ht⟩) t_nil dX2_flip_5
set_option maxHeartbeats 4000000 in
set_option maxRecDepth 100000 in
/-- UnsignedLongs.compare -/
theorem met_X2_compare (l : Launch) (a : Int64) (b : Int64) : Met l yX2_compare (ws_ yX2_compare cX2_compare 4 (some .int)) ({ frames := 2, cells := 0, slots := 0, locals := 46 }) (va_Pc [.long a, .long b] (fun _ => True)) (vp_Si (fun r => r = ud_cmp a b)) 0 0 (fun _ => False) := by
  refine Met.ofW (cc := cX2_compare) (maxL := 4) (ret := some .int) (by decide) rfl ?_
  intro p e s m args below meth c s₁ B hml hv
  obtain ⟨rfl, -⟩ := hv
  have hx := B.exec
  have hb := B.bytes
  have hr := B.returns
  have hts := atoms_spec (ws := ws_ yX2_compare cX2_compare 4 (some .int)) B.pre
  have hts : ∀ w ∈ lw_all, w.before _ s = true := fun w h => hts w (List.mem_cons_of_mem _ h)
  have hown : s.vm.findClass RX2 = some m.cls := findClass_of_methodNamed B.named
  have hlocks := B.notSynchronized
  have hl := lv_entry ([.long a, .long b]) (n := 4) (Nat.le_of_ble_eq_true rfl)
  rw [lg_entry_eq]
  generalize (lg_sl ([.long a, .long b]) ++ List.replicate (4 - (lg_sl ([.long a, .long b])).length) Slot.unset).toArray = ls at hl ⊢
  have hl : lv_has ls 4 [(0, .long a), (2, .long b)] := hl
  refine lv_lload_n hx hb dX2_compare_0 rfl (lv_at hl 0 rfl) ?_
  refine vp_callSl (W.runS (As := [.long a]) (rest := []) ⟨hx, hb, hml, hown, hts⟩ (met_X2_flip l a) (va_cwS 1 hts (lw_S q30 q31 q3 q32) rfl rfl rfl (by decide +kernel) ⟨Nat.le_of_ble_eq_true rfl, Nat.le_of_ble_eq_true rfl⟩) ⟨fun _ _ _ _ q => q, fun _ _ _ => ⟨rfl, trivial⟩⟩ rfl rfl hl.1 rfl (lv_room (Nat.le_of_ble_eq_true rfl)) dX2_compare_1 ⟨Nat.zero_le _, Nat.zero_le _⟩) (fun r1 h1 => ?_)
  refine lv_lload_n hx hb dX2_compare_4 rfl (lv_at hl 1 rfl) ?_
  refine vp_callSl (W.runS (As := [.long b]) (rest := [.long r1]) ⟨hx, hb, hml, hown, hts⟩ (met_X2_flip l b) (va_cwS 1 hts (lw_S q30 q31 q3 q32) rfl rfl rfl (by decide +kernel) ⟨Nat.le_of_ble_eq_true rfl, Nat.le_of_ble_eq_true rfl⟩) ⟨fun _ _ _ _ q => q, fun _ _ _ => ⟨rfl, trivial⟩⟩ rfl rfl hl.1 rfl (lv_room (Nat.le_of_ble_eq_true rfl)) dX2_compare_5 ⟨Nat.zero_le _, Nat.zero_le _⟩) (fun r2 h2 => ?_)
  refine vp_callSi (W.runS (As := [.long r1, .long r2]) (rest := []) ⟨hx, hb, hml, hown, hts⟩ (met_X3_compare l r1 r2) (va_cwS 2 hts (lw_S q34 q35 q4 q36) rfl rfl rfl (by decide +kernel) ⟨Nat.le_of_ble_eq_true rfl, Nat.le_of_ble_eq_true rfl⟩) ⟨fun _ _ _ _ q => q, fun _ _ _ => ⟨rfl, trivial⟩⟩ rfl rfl hl.1 rfl (lv_room (Nat.le_of_ble_eq_true rfl)) dX2_compare_8 ⟨Nat.zero_le _, Nat.zero_le _⟩) (fun r3 h3 => ?_)
  exact W.iret hx hb hr (fun t ht hW => ⟨_, rfl, by rw [h3, h1, h2]; exact ud_flip a b, ht⟩) t_nil dX2_compare_11
set_option maxHeartbeats 4000000 in
set_option maxRecDepth 100000 in
/-- UnsignedLongs.divide, by a number that isn't zero -/
theorem met_X2_divide (l : Launch) (a : Int64) (b : Int64) (h0 : ¬ b = 0) : Met l yX2_divide (ws_ yX2_divide cX2_divide 8 (some .long)) ({ frames := 3, cells := 0, slots := 0, locals := 69 }) (va_Pc [.long a, .long b] (fun _ => True)) (vp_Sl (fun r => r = ud_div a b)) 0 0 (fun _ => False) := by
  refine Met.ofW (cc := cX2_divide) (maxL := 8) (ret := some .long) (by decide) rfl ?_
  intro p e s m args below meth c s₁ B hml hv
  obtain ⟨rfl, -⟩ := hv
  have hx := B.exec
  have hb := B.bytes
  have hr := B.returns
  have hts := atoms_spec (ws := ws_ yX2_divide cX2_divide 8 (some .long)) B.pre
  have hts : ∀ w ∈ lw_all, w.before _ s = true := fun w h => hts w (List.mem_cons_of_mem _ h)
  have hown : s.vm.findClass RX2 = some m.cls := findClass_of_methodNamed B.named
  have hlocks := B.notSynchronized
  have hl := lv_entry ([.long a, .long b]) (n := 8) (Nat.le_of_ble_eq_true rfl)
  rw [lg_entry_eq]
  generalize (lg_sl ([.long a, .long b]) ++ List.replicate (8 - (lg_sl ([.long a, .long b])).length) Slot.unset).toArray = ls at hl ⊢
  have hl : lv_has ls 8 [(0, .long a), (2, .long b)] := hl
  refine lv_lload_n hx hb dX2_divide_0 rfl (lv_at hl 1 rfl) ?_
  refine lv_lconst (v := 0) hx hb dX2_divide_1 (by decide) ?_
  refine W.lcmp hx hb dX2_divide_2 ?_
  refine lv_if_ge (tgt := 18) hx hb dX2_divide_3 (by decide) (fun c1 => ?_) (fun c1 => ?_)
  · refine lv_lload_n hx hb dX2_divide_18 rfl (lv_at hl 0 rfl) ?_
    refine lv_lconst (v := 0) hx hb dX2_divide_19 (by decide) ?_
    refine W.lcmp hx hb dX2_divide_20 ?_
    refine lv_if_lt (tgt := 28) hx hb dX2_divide_21 (by decide) (fun c2 => ?_) (fun c2 => ?_)
    · refine lv_lload_n hx hb dX2_divide_28 rfl (lv_at hl 0 rfl) ?_
      refine lv_iconst (v := 1) hx hb dX2_divide_29 (by decide) ?_
      refine lv_lushr hx hb dX2_divide_30 rfl ?_
      refine lv_lload_n hx hb dX2_divide_31 rfl (lv_at hl 1 rfl) ?_
      refine lv_ldiv hx hb dX2_divide_32 h0 ?_
      refine lv_iconst (v := 1) hx hb dX2_divide_33 (by decide) ?_
      refine lv_lshl hx hb dX2_divide_34 rfl ?_
      refine lv_topl (fun q eq => ?_)
      refine lv_lstore (lv' := [(4, .long q), (0, .long a), (2, .long b)]) hx hb dX2_divide_35 hl (by decide) rfl (fun ls hl => ?_)
      refine lv_lload_n hx hb dX2_divide_37 rfl (lv_at hl 1 rfl) ?_
      refine lv_lload hx hb dX2_divide_38 (lv_at hl 0 rfl) ?_
      refine lv_lload_n hx hb dX2_divide_40 rfl (lv_at hl 2 rfl) ?_
      refine lv_lmul hx hb dX2_divide_41 ?_
      refine lv_lsub hx hb dX2_divide_42 ?_
      refine lv_topl (fun r er => ?_)
      refine lv_lstore (lv' := [(6, .long r), (4, .long q), (0, .long a), (2, .long b)]) hx hb dX2_divide_43 hl (by decide) rfl (fun ls hl => ?_)
      obtain ⟨g1, g2⟩ := ud_d4 h0 (ud_ge0 c1) eq er
      refine lv_lload hx hb dX2_divide_45 (lv_at hl 1 rfl) ?_
      refine lv_lload hx hb dX2_divide_47 (lv_at hl 0 rfl) ?_
      refine lv_lload_n hx hb dX2_divide_49 rfl (lv_at hl 3 rfl) ?_
      refine vp_callSi (W.runS (As := [.long r, .long b]) (rest := [.long q]) ⟨hx, hb, hml, hown, hts⟩ (met_X2_compare l r b) (va_cwS 2 hts (lw_S q27 q28 q3 q29) rfl rfl rfl (by decide +kernel) ⟨Nat.le_of_ble_eq_true rfl, Nat.le_of_ble_eq_true rfl⟩) ⟨fun _ _ _ _ q => q, fun _ _ _ => ⟨rfl, trivial⟩⟩ rfl rfl hl.1 rfl (lv_room (Nat.le_of_ble_eq_true rfl)) dX2_divide_50 ⟨Nat.zero_le _, Nat.zero_le _⟩) (fun z hz => ?_)
      refine lv_if_lt (tgt := 60) hx hb dX2_divide_53 (by decide) (fun c3 => ?_) (fun c3 => ?_)
      · refine lv_iconst (v := 0) hx hb dX2_divide_60 (by decide) ?_
        refine lv_i2l (v := 0) hx hb dX2_divide_61 (by decide) ?_
        refine lv_ladd hx hb dX2_divide_62 ?_
        exact W.lret hx hb hr (fun t ht hW => ⟨_, rfl, (g1 ((ud_cmp_lt r b).mp (hz ▸ c3))).1, ht⟩) t_nil dX2_divide_63
      · refine lv_iconst (v := 1) hx hb dX2_divide_56 (by decide) ?_
        refine lv_goto (tgt := 61) hx hb dX2_divide_57 (by decide) ?_
        refine lv_i2l (v := 1) hx hb dX2_divide_61 (by decide) ?_
        refine lv_ladd hx hb dX2_divide_62 ?_
        exact W.lret hx hb hr (fun t ht hW => ⟨_, rfl, (g2 (fun z1 => c3 (hz ▸ (ud_cmp_lt r b).mpr z1))).1, ht⟩) t_nil dX2_divide_63
    · refine lv_lload_n hx hb dX2_divide_24 rfl (lv_at hl 0 rfl) ?_
      refine lv_lload_n hx hb dX2_divide_25 rfl (lv_at hl 1 rfl) ?_
      refine lv_ldiv hx hb dX2_divide_26 h0 ?_
      exact W.lret hx hb hr (fun t ht hW => ⟨_, rfl, (ud_d3 h0 (ud_ge0 c1) (fun z1 => c2 ((lg_cmp_lt a 0).mpr z1))).1, ht⟩) t_nil dX2_divide_27
  · refine lv_lload_n hx hb dX2_divide_6 rfl (lv_at hl 0 rfl) ?_
    refine lv_lload_n hx hb dX2_divide_7 rfl (lv_at hl 1 rfl) ?_
    refine vp_callSi (W.runS (As := [.long a, .long b]) (rest := []) ⟨hx, hb, hml, hown, hts⟩ (met_X2_compare l a b) (va_cwS 2 hts (lw_S q27 q28 q3 q29) rfl rfl rfl (by decide +kernel) ⟨Nat.le_of_ble_eq_true rfl, Nat.le_of_ble_eq_true rfl⟩) ⟨fun _ _ _ _ q => q, fun _ _ _ => ⟨rfl, trivial⟩⟩ rfl rfl hl.1 rfl (lv_room (Nat.le_of_ble_eq_true rfl)) dX2_divide_8 ⟨Nat.zero_le _, Nat.zero_le _⟩) (fun z hz => ?_)
    refine lv_if_ge (tgt := 16) hx hb dX2_divide_11 (by decide) (fun c2 => ?_) (fun c2 => ?_)
    · refine lv_lconst (v := 1) hx hb dX2_divide_16 (by decide) ?_
      exact W.lret hx hb hr (fun t ht hW => ⟨_, rfl, (ud_d2 (ud_lt0 c1) ((ud_cmp_ge a b).mp (hz ▸ c2))).1, ht⟩) t_nil dX2_divide_17
    · refine lv_lconst (v := 0) hx hb dX2_divide_14 (by decide) ?_
      exact W.lret hx hb hr (fun t ht hW => ⟨_, rfl, (ud_d1 (ud_lt0 c1) (Classical.byContradiction (fun z1 => c2 (hz ▸ (ud_cmp_ge a b).mpr z1)))).1, ht⟩) t_nil dX2_divide_15
set_option maxHeartbeats 4000000 in
set_option maxRecDepth 100000 in
/-- UnsignedLongs.remainder, by a number that isn't zero -/
theorem met_X2_remainder (l : Launch) (a : Int64) (b : Int64) (h0 : ¬ b = 0) : Met l yX2_remainder (ws_ yX2_remainder cX2_remainder 8 (some .long)) ({ frames := 3, cells := 0, slots := 0, locals := 69 }) (va_Pc [.long a, .long b] (fun _ => True)) (vp_Sl (fun r => r = ud_rem a b)) 0 0 (fun _ => False) := by
  refine Met.ofW (cc := cX2_remainder) (maxL := 8) (ret := some .long) (by decide) rfl ?_
  intro p e s m args below meth c s₁ B hml hv
  obtain ⟨rfl, -⟩ := hv
  have hx := B.exec
  have hb := B.bytes
  have hr := B.returns
  have hts := atoms_spec (ws := ws_ yX2_remainder cX2_remainder 8 (some .long)) B.pre
  have hts : ∀ w ∈ lw_all, w.before _ s = true := fun w h => hts w (List.mem_cons_of_mem _ h)
  have hown : s.vm.findClass RX2 = some m.cls := findClass_of_methodNamed B.named
  have hlocks := B.notSynchronized
  have hl := lv_entry ([.long a, .long b]) (n := 8) (Nat.le_of_ble_eq_true rfl)
  rw [lg_entry_eq]
  generalize (lg_sl ([.long a, .long b]) ++ List.replicate (8 - (lg_sl ([.long a, .long b])).length) Slot.unset).toArray = ls at hl ⊢
  have hl : lv_has ls 8 [(0, .long a), (2, .long b)] := hl
  refine lv_lload_n hx hb dX2_remainder_0 rfl (lv_at hl 1 rfl) ?_
  refine lv_lconst (v := 0) hx hb dX2_remainder_1 (by decide) ?_
  refine W.lcmp hx hb dX2_remainder_2 ?_
  refine lv_if_ge (tgt := 20) hx hb dX2_remainder_3 (by decide) (fun c1 => ?_) (fun c1 => ?_)
  · refine lv_lload_n hx hb dX2_remainder_20 rfl (lv_at hl 0 rfl) ?_
    refine lv_lconst (v := 0) hx hb dX2_remainder_21 (by decide) ?_
    refine W.lcmp hx hb dX2_remainder_22 ?_
    refine lv_if_lt (tgt := 30) hx hb dX2_remainder_23 (by decide) (fun c2 => ?_) (fun c2 => ?_)
    · refine lv_lload_n hx hb dX2_remainder_30 rfl (lv_at hl 0 rfl) ?_
      refine lv_iconst (v := 1) hx hb dX2_remainder_31 (by decide) ?_
      refine lv_lushr hx hb dX2_remainder_32 rfl ?_
      refine lv_lload_n hx hb dX2_remainder_33 rfl (lv_at hl 1 rfl) ?_
      refine lv_ldiv hx hb dX2_remainder_34 h0 ?_
      refine lv_iconst (v := 1) hx hb dX2_remainder_35 (by decide) ?_
      refine lv_lshl hx hb dX2_remainder_36 rfl ?_
      refine lv_topl (fun q eq => ?_)
      refine lv_lstore (lv' := [(4, .long q), (0, .long a), (2, .long b)]) hx hb dX2_remainder_37 hl (by decide) rfl (fun ls hl => ?_)
      refine lv_lload_n hx hb dX2_remainder_39 rfl (lv_at hl 1 rfl) ?_
      refine lv_lload hx hb dX2_remainder_40 (lv_at hl 0 rfl) ?_
      refine lv_lload_n hx hb dX2_remainder_42 rfl (lv_at hl 2 rfl) ?_
      refine lv_lmul hx hb dX2_remainder_43 ?_
      refine lv_lsub hx hb dX2_remainder_44 ?_
      refine lv_topl (fun r er => ?_)
      refine lv_lstore (lv' := [(6, .long r), (4, .long q), (0, .long a), (2, .long b)]) hx hb dX2_remainder_45 hl (by decide) rfl (fun ls hl => ?_)
      obtain ⟨g1, g2⟩ := ud_d4 h0 (ud_ge0 c1) eq er
      refine lv_lload hx hb dX2_remainder_47 (lv_at hl 0 rfl) ?_
      refine lv_lload hx hb dX2_remainder_49 (lv_at hl 0 rfl) ?_
      refine lv_lload_n hx hb dX2_remainder_51 rfl (lv_at hl 3 rfl) ?_
      refine vp_callSi (W.runS (As := [.long r, .long b]) (rest := [.long r]) ⟨hx, hb, hml, hown, hts⟩ (met_X2_compare l r b) (va_cwS 2 hts (lw_S q27 q28 q3 q29) rfl rfl rfl (by decide +kernel) ⟨Nat.le_of_ble_eq_true rfl, Nat.le_of_ble_eq_true rfl⟩) ⟨fun _ _ _ _ q => q, fun _ _ _ => ⟨rfl, trivial⟩⟩ rfl rfl hl.1 rfl (lv_room (Nat.le_of_ble_eq_true rfl)) dX2_remainder_52 ⟨Nat.zero_le _, Nat.zero_le _⟩) (fun z hz => ?_)
      refine lv_if_lt (tgt := 62) hx hb dX2_remainder_55 (by decide) (fun c3 => ?_) (fun c3 => ?_)
      · refine lv_lconst (v := 0) hx hb dX2_remainder_62 (by decide) ?_
        refine lv_lsub hx hb dX2_remainder_63 ?_
        exact W.lret hx hb hr (fun t ht hW => ⟨_, rfl, (g1 ((ud_cmp_lt r b).mp (hz ▸ c3))).2, ht⟩) t_nil dX2_remainder_64
      · refine lv_lload_n hx hb dX2_remainder_58 rfl (lv_at hl 3 rfl) ?_
        refine lv_goto (tgt := 63) hx hb dX2_remainder_59 (by decide) ?_
        refine lv_lsub hx hb dX2_remainder_63 ?_
        exact W.lret hx hb hr (fun t ht hW => ⟨_, rfl, (g2 (fun z1 => c3 (hz ▸ (ud_cmp_lt r b).mpr z1))).2, ht⟩) t_nil dX2_remainder_64
    · refine lv_lload_n hx hb dX2_remainder_26 rfl (lv_at hl 0 rfl) ?_
      refine lv_lload_n hx hb dX2_remainder_27 rfl (lv_at hl 1 rfl) ?_
      refine lv_lrem hx hb dX2_remainder_28 h0 ?_
      exact W.lret hx hb hr (fun t ht hW => ⟨_, rfl, (ud_d3 h0 (ud_ge0 c1) (fun z1 => c2 ((lg_cmp_lt a 0).mpr z1))).2, ht⟩) t_nil dX2_remainder_29
  · refine lv_lload_n hx hb dX2_remainder_6 rfl (lv_at hl 0 rfl) ?_
    refine lv_lload_n hx hb dX2_remainder_7 rfl (lv_at hl 1 rfl) ?_
    refine vp_callSi (W.runS (As := [.long a, .long b]) (rest := []) ⟨hx, hb, hml, hown, hts⟩ (met_X2_compare l a b) (va_cwS 2 hts (lw_S q27 q28 q3 q29) rfl rfl rfl (by decide +kernel) ⟨Nat.le_of_ble_eq_true rfl, Nat.le_of_ble_eq_true rfl⟩) ⟨fun _ _ _ _ q => q, fun _ _ _ => ⟨rfl, trivial⟩⟩ rfl rfl hl.1 rfl (lv_room (Nat.le_of_ble_eq_true rfl)) dX2_remainder_8 ⟨Nat.zero_le _, Nat.zero_le _⟩) (fun z hz => ?_)
    refine lv_if_ge (tgt := 16) hx hb dX2_remainder_11 (by decide) (fun c2 => ?_) (fun c2 => ?_)
    · refine lv_lload_n hx hb dX2_remainder_16 rfl (lv_at hl 0 rfl) ?_
      refine lv_lload_n hx hb dX2_remainder_17 rfl (lv_at hl 1 rfl) ?_
      refine lv_lsub hx hb dX2_remainder_18 ?_
      exact W.lret hx hb hr (fun t ht hW => ⟨_, rfl, (ud_d2 (ud_lt0 c1) ((ud_cmp_ge a b).mp (hz ▸ c2))).2, ht⟩) t_nil dX2_remainder_19
    · refine lv_lload_n hx hb dX2_remainder_14 rfl (lv_at hl 0 rfl) ?_
      exact W.lret hx hb hr (fun t ht hW => ⟨_, rfl, (ud_d1 (ud_lt0 c1) (Classical.byContradiction (fun z1 => c2 (hz ▸ (ud_cmp_ge a b).mpr z1)))).2, ht⟩) t_nil dX2_remainder_15
end
section
/-! MODULE UnsignedDesk: contracts of its constructor, wide, divide, remainder, compare (printed by gen/gen_parts.py) -/
set_option maxHeartbeats 4000000 in
set_option maxRecDepth 100000 in
/-- the constructor: nothing but Object's -/
theorem met_X0_init (l : Launch) (h0 : Nat) : Met l yX0_init (ws_ yX0_init cX0_init 1 none) ({ frames := 1, cells := 0, slots := 0, locals := 12 }) (va_Pc [.ref h0] (fun _ => True)) (va_Sv (fun _ => True)) 0 0 (fun _ => False) := by
  refine Met.ofW (cc := cX0_init) (maxL := 1) (ret := none) (by decide) rfl ?_
  intro p e s m args below meth c s₁ B hml hv
  obtain ⟨rfl, -⟩ := hv
  have hx := B.exec
  have hb := B.bytes
  have hr := B.returns
  have hts := atoms_spec (ws := ws_ yX0_init cX0_init 1 none) B.pre
  have hts : ∀ w ∈ lw_all, w.before _ s = true := fun w h => hts w (List.mem_cons_of_mem _ h)
  have hown : s.vm.findClass RX0 = some m.cls := findClass_of_methodNamed B.named
  have hlocks := B.notSynchronized
  have hl := lv_entry ([.ref h0]) (n := 1) (Nat.le_of_ble_eq_true rfl)
  rw [lg_entry_eq]
  generalize (lg_sl ([.ref h0]) ++ List.replicate (1 - (lg_sl ([.ref h0])).length) Slot.unset).toArray = ls at hl ⊢
  have hl : lv_has ls 1 [(0, .ref h0)] := hl
  refine lv_aload_n hx hb dX0_init_0 rfl (lv_at hl 0 rfl) ?_
  refine W.objInit hx hb hown (hts _ q11) (hts _ q12) (hts _ q13) rfl (by rw [hml]; exact hl.1) rfl dX0_init_1 (Nat.le_of_ble_eq_true rfl) (Nat.le_of_ble_eq_true rfl) ?_
  refine W.eq (g2 := F0 m 4 ls []) rfl ?_
  exact W.vret hx hb hr (fun t ht hW => ⟨rfl, trivial, ht⟩) t_nil dX0_init_4
set_option maxHeartbeats 4000000 in
set_option maxRecDepth 100000 in
/-- wide: two ints as one long -/
theorem met_X0_wide (l : Launch) (a : Int32) (b : Int32) : Met l yX0_wide (ws_ yX0_wide cX0_wide 2 (some .long)) ({ frames := 0, cells := 0, slots := 0, locals := 0 }) (va_Pc [.int a, .int b] (fun _ => True)) (vp_Sl (fun r => r = ud_wide a b)) 0 0 (fun _ => False) := by
  refine Met.ofW (cc := cX0_wide) (maxL := 2) (ret := some .long) (by decide) rfl ?_
  intro p e s m args below meth c s₁ B hml hv
  obtain ⟨rfl, -⟩ := hv
  have hx := B.exec
  have hb := B.bytes
  have hr := B.returns
  have hts := atoms_spec (ws := ws_ yX0_wide cX0_wide 2 (some .long)) B.pre
  have hts : ∀ w ∈ lw_all, w.before _ s = true := fun w h => hts w (List.mem_cons_of_mem _ h)
  have hown : s.vm.findClass RX0 = some m.cls := findClass_of_methodNamed B.named
  have hlocks := B.notSynchronized
  have hl := lv_entry ([.int a, .int b]) (n := 2) (Nat.le_of_ble_eq_true rfl)
  rw [lg_entry_eq]
  generalize (lg_sl ([.int a, .int b]) ++ List.replicate (2 - (lg_sl ([.int a, .int b])).length) Slot.unset).toArray = ls at hl ⊢
  have hl : lv_has ls 2 [(0, .int a), (1, .int b)] := hl
  refine lv_iload_n hx hb dX0_wide_0 rfl (lv_at hl 0 rfl) ?_
  refine lv_i2l hx hb dX0_wide_1 rfl ?_
  refine lv_bipush (v := 32) hx hb dX0_wide_2 (by decide) ?_
  refine lv_lshl hx hb dX0_wide_4 rfl ?_
  refine lv_iload_n hx hb dX0_wide_5 rfl (lv_at hl 1 rfl) ?_
  refine lv_i2l hx hb dX0_wide_6 rfl ?_
  refine lv_ldc2 hx hb hown (hts _ q22) dX0_wide_7 ?_
  refine lv_land hx hb dX0_wide_10 ?_
  refine lv_lor hx hb dX0_wide_11 ?_
  exact W.lret hx hb hr (fun t ht hW => ⟨_, rfl, rfl, ht⟩) t_nil dX0_wide_12
set_option maxHeartbeats 4000000 in
set_option maxRecDepth 100000 in
/-- UnsignedDesk.divide -/
theorem met_X0_divide (l : Launch) (h0 : Nat) (a : Int32) (b : Int32) (cc : Int32) (dd : Int32) : Met l yX0_divide (ws_ yX0_divide cX0_divide 7 (some .long)) ({ frames := 4, cells := 0, slots := 0, locals := 96 }) (va_Pc [.ref h0, .int a, .int b, .int cc, .int dd] (fun _ => True)) (vp_Sl (fun r => r = ud_D a b cc dd)) 0 0 (fun _ => False) := by
  refine Met.ofW (cc := cX0_divide) (maxL := 7) (ret := some .long) (by decide) rfl ?_
  intro p e s m args below meth c s₁ B hml hv
  obtain ⟨rfl, -⟩ := hv
  have hx := B.exec
  have hb := B.bytes
  have hr := B.returns
  have hts := atoms_spec (ws := ws_ yX0_divide cX0_divide 7 (some .long)) B.pre
  have hts : ∀ w ∈ lw_all, w.before _ s = true := fun w h => hts w (List.mem_cons_of_mem _ h)
  have hown : s.vm.findClass RX0 = some m.cls := findClass_of_methodNamed B.named
  have hlocks := B.notSynchronized
  have hl := lv_entry ([.ref h0, .int a, .int b, .int cc, .int dd]) (n := 7) (Nat.le_of_ble_eq_true rfl)
  rw [lg_entry_eq]
  generalize (lg_sl ([.ref h0, .int a, .int b, .int cc, .int dd]) ++ List.replicate (7 - (lg_sl ([.ref h0, .int a, .int b, .int cc, .int dd])).length) Slot.unset).toArray = ls at hl ⊢
  have hl : lv_has ls 7 [(0, .ref h0), (1, .int a), (2, .int b), (3, .int cc), (4, .int dd)] := hl
  refine lv_iload_n hx hb dX0_divide_0 rfl (lv_at hl 3 rfl) ?_
  refine lv_iload hx hb dX0_divide_1 (lv_at hl 4 rfl) ?_
  refine vp_callSl (W.runS (As := [.int cc, .int dd]) (rest := []) ⟨hx, hb, hml, hown, hts⟩ (met_X0_wide l cc dd) (va_cwS 2 hts (lw_S q19 q20 q1 q21) rfl rfl rfl (by decide +kernel) ⟨Nat.le_of_ble_eq_true rfl, Nat.le_of_ble_eq_true rfl⟩) ⟨fun _ _ _ _ q => q, fun _ _ _ => ⟨rfl, trivial⟩⟩ rfl rfl hl.1 rfl (lv_room (Nat.le_of_ble_eq_true rfl)) dX0_divide_3 ⟨Nat.zero_le _, Nat.zero_le _⟩) (fun y hy => ?_)
  refine lv_lstore (lv' := [(5, .long y), (0, .ref h0), (1, .int a), (2, .int b), (3, .int cc), (4, .int dd)]) hx hb dX0_divide_6 hl (by decide) rfl (fun ls hl => ?_)
  refine lv_lload hx hb dX0_divide_8 (lv_at hl 0 rfl) ?_
  refine lv_lconst (v := 0) hx hb dX0_divide_10 (by decide) ?_
  refine W.lcmp hx hb dX0_divide_11 ?_
  refine lv_if_ne (tgt := 21) hx hb dX0_divide_12 (by decide) (fun c1 => ?_) (fun c1 => ?_)
  · have y0 : ¬ y = 0 := fun z => c1 ((lg_cmp_eq y 0).mpr z)
    refine lv_iload_n hx hb dX0_divide_21 rfl (lv_at hl 2 rfl) ?_
    refine lv_iload_n hx hb dX0_divide_22 rfl (lv_at hl 3 rfl) ?_
    refine vp_callSl (W.runS (As := [.int a, .int b]) (rest := []) ⟨hx, hb, hml, hown, hts⟩ (met_X0_wide l a b) (va_cwS 2 hts (lw_S q19 q20 q1 q21) rfl rfl rfl (by decide +kernel) ⟨Nat.le_of_ble_eq_true rfl, Nat.le_of_ble_eq_true rfl⟩) ⟨fun _ _ _ _ q => q, fun _ _ _ => ⟨rfl, trivial⟩⟩ rfl rfl hl.1 rfl (lv_room (Nat.le_of_ble_eq_true rfl)) dX0_divide_23 ⟨Nat.zero_le _, Nat.zero_le _⟩) (fun x hw => ?_)
    refine lv_lload hx hb dX0_divide_26 (lv_at hl 0 rfl) ?_
    refine vp_callSl (W.runS (As := [.long x, .long y]) (rest := []) ⟨hx, hb, hml, hown, hts⟩ (met_X2_divide l x y y0) (va_cwS 2 hts (lw_S q24 q25 q3 q26) rfl rfl rfl (by decide +kernel) ⟨Nat.le_of_ble_eq_true rfl, Nat.le_of_ble_eq_true rfl⟩) ⟨fun _ _ _ _ q => q, fun _ _ _ => ⟨rfl, trivial⟩⟩ rfl rfl hl.1 rfl (lv_room (Nat.le_of_ble_eq_true rfl)) dX0_divide_28 ⟨Nat.zero_le _, Nat.zero_le _⟩) (fun r h => ?_)
    exact W.lret hx hb hr (fun t ht hW => ⟨_, rfl, by rw [h, hw]; unfold ud_D; rw [← hy, if_neg y0], ht⟩) t_nil dX0_divide_31
  · refine lv_ldc2 hx hb hown (hts _ q23) dX0_divide_15 ?_
    refine lv_goto (tgt := 31) hx hb dX0_divide_18 (by decide) ?_
    exact W.lret hx hb hr (fun t ht hW => ⟨_, rfl, by unfold ud_D; rw [← hy, if_pos ((lg_cmp_eq y 0).mp c1)], ht⟩) t_nil dX0_divide_31
set_option maxHeartbeats 4000000 in
set_option maxRecDepth 100000 in
/-- UnsignedDesk.remainder -/
theorem met_X0_remainder (l : Launch) (h0 : Nat) (a : Int32) (b : Int32) (cc : Int32) (dd : Int32) : Met l yX0_remainder (ws_ yX0_remainder cX0_remainder 7 (some .long)) ({ frames := 4, cells := 0, slots := 0, locals := 96 }) (va_Pc [.ref h0, .int a, .int b, .int cc, .int dd] (fun _ => True)) (vp_Sl (fun r => r = ud_R a b cc dd)) 0 0 (fun _ => False) := by
  refine Met.ofW (cc := cX0_remainder) (maxL := 7) (ret := some .long) (by decide) rfl ?_
  intro p e s m args below meth c s₁ B hml hv
  obtain ⟨rfl, -⟩ := hv
  have hx := B.exec
  have hb := B.bytes
  have hr := B.returns
  have hts := atoms_spec (ws := ws_ yX0_remainder cX0_remainder 7 (some .long)) B.pre
  have hts : ∀ w ∈ lw_all, w.before _ s = true := fun w h => hts w (List.mem_cons_of_mem _ h)
  have hown : s.vm.findClass RX0 = some m.cls := findClass_of_methodNamed B.named
  have hlocks := B.notSynchronized
  have hl := lv_entry ([.ref h0, .int a, .int b, .int cc, .int dd]) (n := 7) (Nat.le_of_ble_eq_true rfl)
  rw [lg_entry_eq]
  generalize (lg_sl ([.ref h0, .int a, .int b, .int cc, .int dd]) ++ List.replicate (7 - (lg_sl ([.ref h0, .int a, .int b, .int cc, .int dd])).length) Slot.unset).toArray = ls at hl ⊢
  have hl : lv_has ls 7 [(0, .ref h0), (1, .int a), (2, .int b), (3, .int cc), (4, .int dd)] := hl
  refine lv_iload_n hx hb dX0_remainder_0 rfl (lv_at hl 3 rfl) ?_
  refine lv_iload hx hb dX0_remainder_1 (lv_at hl 4 rfl) ?_
  refine vp_callSl (W.runS (As := [.int cc, .int dd]) (rest := []) ⟨hx, hb, hml, hown, hts⟩ (met_X0_wide l cc dd) (va_cwS 2 hts (lw_S q19 q20 q1 q21) rfl rfl rfl (by decide +kernel) ⟨Nat.le_of_ble_eq_true rfl, Nat.le_of_ble_eq_true rfl⟩) ⟨fun _ _ _ _ q => q, fun _ _ _ => ⟨rfl, trivial⟩⟩ rfl rfl hl.1 rfl (lv_room (Nat.le_of_ble_eq_true rfl)) dX0_remainder_3 ⟨Nat.zero_le _, Nat.zero_le _⟩) (fun y hy => ?_)
  refine lv_lstore (lv' := [(5, .long y), (0, .ref h0), (1, .int a), (2, .int b), (3, .int cc), (4, .int dd)]) hx hb dX0_remainder_6 hl (by decide) rfl (fun ls hl => ?_)
  refine lv_lload hx hb dX0_remainder_8 (lv_at hl 0 rfl) ?_
  refine lv_lconst (v := 0) hx hb dX0_remainder_10 (by decide) ?_
  refine W.lcmp hx hb dX0_remainder_11 ?_
  refine lv_if_ne (tgt := 21) hx hb dX0_remainder_12 (by decide) (fun c1 => ?_) (fun c1 => ?_)
  · have y0 : ¬ y = 0 := fun z => c1 ((lg_cmp_eq y 0).mpr z)
    refine lv_iload_n hx hb dX0_remainder_21 rfl (lv_at hl 2 rfl) ?_
    refine lv_iload_n hx hb dX0_remainder_22 rfl (lv_at hl 3 rfl) ?_
    refine vp_callSl (W.runS (As := [.int a, .int b]) (rest := []) ⟨hx, hb, hml, hown, hts⟩ (met_X0_wide l a b) (va_cwS 2 hts (lw_S q19 q20 q1 q21) rfl rfl rfl (by decide +kernel) ⟨Nat.le_of_ble_eq_true rfl, Nat.le_of_ble_eq_true rfl⟩) ⟨fun _ _ _ _ q => q, fun _ _ _ => ⟨rfl, trivial⟩⟩ rfl rfl hl.1 rfl (lv_room (Nat.le_of_ble_eq_true rfl)) dX0_remainder_23 ⟨Nat.zero_le _, Nat.zero_le _⟩) (fun x hw => ?_)
    refine lv_lload hx hb dX0_remainder_26 (lv_at hl 0 rfl) ?_
    refine vp_callSl (W.runS (As := [.long x, .long y]) (rest := []) ⟨hx, hb, hml, hown, hts⟩ (met_X2_remainder l x y y0) (va_cwS 2 hts (lw_S q44 q45 q3 q46) rfl rfl rfl (by decide +kernel) ⟨Nat.le_of_ble_eq_true rfl, Nat.le_of_ble_eq_true rfl⟩) ⟨fun _ _ _ _ q => q, fun _ _ _ => ⟨rfl, trivial⟩⟩ rfl rfl hl.1 rfl (lv_room (Nat.le_of_ble_eq_true rfl)) dX0_remainder_28 ⟨Nat.zero_le _, Nat.zero_le _⟩) (fun r h => ?_)
    exact W.lret hx hb hr (fun t ht hW => ⟨_, rfl, by rw [h, hw]; unfold ud_R; rw [← hy, if_neg y0], ht⟩) t_nil dX0_remainder_31
  · refine lv_ldc2 hx hb hown (hts _ q23) dX0_remainder_15 ?_
    refine lv_goto (tgt := 31) hx hb dX0_remainder_18 (by decide) ?_
    exact W.lret hx hb hr (fun t ht hW => ⟨_, rfl, by unfold ud_R; rw [← hy, if_pos ((lg_cmp_eq y 0).mp c1)], ht⟩) t_nil dX0_remainder_31
set_option maxHeartbeats 4000000 in
set_option maxRecDepth 100000 in
/-- UnsignedDesk.compare -/
theorem met_X0_compare (l : Launch) (h0 : Nat) (a : Int32) (b : Int32) (cc : Int32) (dd : Int32) : Met l yX0_compare (ws_ yX0_compare cX0_compare 6 (some .int)) ({ frames := 3, cells := 0, slots := 0, locals := 69 }) (va_Pc [.ref h0, .int a, .int b, .int cc, .int dd] (fun _ => True)) (vp_Si (fun r => r = ud_C a b cc dd)) 0 0 (fun _ => False) := by
  refine Met.ofW (cc := cX0_compare) (maxL := 6) (ret := some .int) (by decide) rfl ?_
  intro p e s m args below meth c s₁ B hml hv
  obtain ⟨rfl, -⟩ := hv
  have hx := B.exec
  have hb := B.bytes
  have hr := B.returns
  have hts := atoms_spec (ws := ws_ yX0_compare cX0_compare 6 (some .int)) B.pre
  have hts : ∀ w ∈ lw_all, w.before _ s = true := fun w h => hts w (List.mem_cons_of_mem _ h)
  have hown : s.vm.findClass RX0 = some m.cls := findClass_of_methodNamed B.named
  have hlocks := B.notSynchronized
  have hl := lv_entry ([.ref h0, .int a, .int b, .int cc, .int dd]) (n := 6) (Nat.le_of_ble_eq_true rfl)
  rw [lg_entry_eq]
  generalize (lg_sl ([.ref h0, .int a, .int b, .int cc, .int dd]) ++ List.replicate (6 - (lg_sl ([.ref h0, .int a, .int b, .int cc, .int dd])).length) Slot.unset).toArray = ls at hl ⊢
  have hl : lv_has ls 6 [(0, .ref h0), (1, .int a), (2, .int b), (3, .int cc), (4, .int dd)] := hl
  refine lv_iload_n hx hb dX0_compare_0 rfl (lv_at hl 1 rfl) ?_
  refine lv_iload_n hx hb dX0_compare_1 rfl (lv_at hl 2 rfl) ?_
  refine vp_callSl (W.runS (As := [.int a, .int b]) (rest := []) ⟨hx, hb, hml, hown, hts⟩ (met_X0_wide l a b) (va_cwS 2 hts (lw_S q19 q20 q1 q21) rfl rfl rfl (by decide +kernel) ⟨Nat.le_of_ble_eq_true rfl, Nat.le_of_ble_eq_true rfl⟩) ⟨fun _ _ _ _ q => q, fun _ _ _ => ⟨rfl, trivial⟩⟩ rfl rfl hl.1 rfl (lv_room (Nat.le_of_ble_eq_true rfl)) dX0_compare_2 ⟨Nat.zero_le _, Nat.zero_le _⟩) (fun x hw => ?_)
  refine lv_iload_n hx hb dX0_compare_5 rfl (lv_at hl 3 rfl) ?_
  refine lv_iload hx hb dX0_compare_6 (lv_at hl 4 rfl) ?_
  refine vp_callSl (W.runS (As := [.int cc, .int dd]) (rest := [.long x]) ⟨hx, hb, hml, hown, hts⟩ (met_X0_wide l cc dd) (va_cwS 2 hts (lw_S q19 q20 q1 q21) rfl rfl rfl (by decide +kernel) ⟨Nat.le_of_ble_eq_true rfl, Nat.le_of_ble_eq_true rfl⟩) ⟨fun _ _ _ _ q => q, fun _ _ _ => ⟨rfl, trivial⟩⟩ rfl rfl hl.1 rfl (lv_room (Nat.le_of_ble_eq_true rfl)) dX0_compare_8 ⟨Nat.zero_le _, Nat.zero_le _⟩) (fun y hy => ?_)
  refine vp_callSi (W.runS (As := [.long x, .long y]) (rest := []) ⟨hx, hb, hml, hown, hts⟩ (met_X2_compare l x y) (va_cwS 2 hts (lw_S q51 q28 q3 q29) rfl rfl rfl (by decide +kernel) ⟨Nat.le_of_ble_eq_true rfl, Nat.le_of_ble_eq_true rfl⟩) ⟨fun _ _ _ _ q => q, fun _ _ _ => ⟨rfl, trivial⟩⟩ rfl rfl hl.1 rfl (lv_room (Nat.le_of_ble_eq_true rfl)) dX0_compare_11 ⟨Nat.zero_le _, Nat.zero_le _⟩) (fun z hz => ?_)
  refine lv_istore (lv' := [(5, .int z), (0, .ref h0), (1, .int a), (2, .int b), (3, .int cc), (4, .int dd)]) hx hb dX0_compare_14 hl (by decide) rfl (fun ls hl => ?_)
  obtain ⟨g1, g2, g3⟩ := ud_cmp3 x y
  rw [← hz] at g1 g2 g3
  have hE : z = ud_C a b cc dd := by rw [hz, hw, hy]; rfl
  rw [← hE]
  refine lv_iload hx hb dX0_compare_16 (lv_at hl 0 rfl) ?_
  refine lv_if_ge (tgt := 25) hx hb dX0_compare_18 (by decide) (fun c1 => ?_) (fun c1 => ?_)
  · refine lv_iload hx hb dX0_compare_25 (lv_at hl 0 rfl) ?_
    refine lv_if_le (tgt := 34) hx hb dX0_compare_27 (by decide) (fun c2 => ?_) (fun c2 => ?_)
    · refine lv_iconst (v := 0) hx hb dX0_compare_34 (by decide) ?_
      exact W.iret hx hb hr (fun t ht hW => ⟨_, rfl, g2 c1 c2, ht⟩) t_nil dX0_compare_35
    · refine lv_iconst (v := 1) hx hb dX0_compare_30 (by decide) ?_
      refine lv_goto (tgt := 35) hx hb dX0_compare_31 (by decide) ?_
      exact W.iret hx hb hr (fun t ht hW => ⟨_, rfl, g3 c2, ht⟩) t_nil dX0_compare_35
  · refine lv_iconst (v := (-1)) hx hb dX0_compare_21 (by decide) ?_
    refine lv_goto (tgt := 35) hx hb dX0_compare_22 (by decide) ?_
    exact W.iret hx hb hr (fun t ht hW => ⟨_, rfl, g1 c1, ht⟩) t_nil dX0_compare_35
end
section
/-! MODULE UnsignedDeskModel: contracts of its constructor, less, run, wide, divide, remainder, compare (printed by gen/gen_parts.py) -/
set_option maxHeartbeats 4000000 in
set_option maxRecDepth 100000 in
/-- the constructor: nothing but Object's -/
theorem met_X1_init (l : Launch) (h0 : Nat) : Met l yX1_init (ws_ yX1_init cX1_init 1 none) ({ frames := 1, cells := 0, slots := 0, locals := 12 }) (va_Pc [.ref h0] (fun _ => True)) (va_Sv (fun _ => True)) 0 0 (fun _ => False) := by
  refine Met.ofW (cc := cX1_init) (maxL := 1) (ret := none) (by decide) rfl ?_
  intro p e s m args below meth c s₁ B hml hv
  obtain ⟨rfl, -⟩ := hv
  have hx := B.exec
  have hb := B.bytes
  have hr := B.returns
  have hts := atoms_spec (ws := ws_ yX1_init cX1_init 1 none) B.pre
  have hts : ∀ w ∈ lw_all, w.before _ s = true := fun w h => hts w (List.mem_cons_of_mem _ h)
  have hown : s.vm.findClass RX1 = some m.cls := findClass_of_methodNamed B.named
  have hlocks := B.notSynchronized
  have hl := lv_entry ([.ref h0]) (n := 1) (Nat.le_of_ble_eq_true rfl)
  rw [lg_entry_eq]
  generalize (lg_sl ([.ref h0]) ++ List.replicate (1 - (lg_sl ([.ref h0])).length) Slot.unset).toArray = ls at hl ⊢
  have hl : lv_has ls 1 [(0, .ref h0)] := hl
  refine lv_aload_n hx hb dX1_init_0 rfl (lv_at hl 0 rfl) ?_
  refine W.objInit hx hb hown (hts _ q57) (hts _ q12) (hts _ q13) rfl (by rw [hml]; exact hl.1) rfl dX1_init_1 (Nat.le_of_ble_eq_true rfl) (Nat.le_of_ble_eq_true rfl) ?_
  refine W.eq (g2 := F0 m 4 ls []) rfl ?_
  exact W.vret hx hb hr (fun t ht hW => ⟨rfl, trivial, ht⟩) t_nil dX1_init_4
set_option maxHeartbeats 4000000 in
set_option maxRecDepth 100000 in
/-- wide: two ints as one long -/
theorem met_X1_wide (l : Launch) (a : Int32) (b : Int32) : Met l yX1_wide (ws_ yX1_wide cX1_wide 2 (some .long)) ({ frames := 0, cells := 0, slots := 0, locals := 0 }) (va_Pc [.int a, .int b] (fun _ => True)) (vp_Sl (fun r => r = ud_wide a b)) 0 0 (fun _ => False) := by
  refine Met.ofW (cc := cX1_wide) (maxL := 2) (ret := some .long) (by decide) rfl ?_
  intro p e s m args below meth c s₁ B hml hv
  obtain ⟨rfl, -⟩ := hv
  have hx := B.exec
  have hb := B.bytes
  have hr := B.returns
  have hts := atoms_spec (ws := ws_ yX1_wide cX1_wide 2 (some .long)) B.pre
  have hts : ∀ w ∈ lw_all, w.before _ s = true := fun w h => hts w (List.mem_cons_of_mem _ h)
  have hown : s.vm.findClass RX1 = some m.cls := findClass_of_methodNamed B.named
  have hlocks := B.notSynchronized
  have hl := lv_entry ([.int a, .int b]) (n := 2) (Nat.le_of_ble_eq_true rfl)
  rw [lg_entry_eq]
  generalize (lg_sl ([.int a, .int b]) ++ List.replicate (2 - (lg_sl ([.int a, .int b])).length) Slot.unset).toArray = ls at hl ⊢
  have hl : lv_has ls 2 [(0, .int a), (1, .int b)] := hl
  refine lv_iload_n hx hb dX1_wide_0 rfl (lv_at hl 0 rfl) ?_
  refine lv_i2l hx hb dX1_wide_1 rfl ?_
  refine lv_bipush (v := 32) hx hb dX1_wide_2 (by decide) ?_
  refine lv_lshl hx hb dX1_wide_4 rfl ?_
  refine lv_iload_n hx hb dX1_wide_5 rfl (lv_at hl 1 rfl) ?_
  refine lv_i2l hx hb dX1_wide_6 rfl ?_
  refine lv_ldc2 hx hb hown (hts _ q66) dX1_wide_7 ?_
  refine lv_land hx hb dX1_wide_10 ?_
  refine lv_lor hx hb dX1_wide_11 ?_
  exact W.lret hx hb hr (fun t ht hW => ⟨_, rfl, rfl, ht⟩) t_nil dX1_wide_12
set_option maxHeartbeats 4000000 in
set_option maxRecDepth 100000 in
/-- less, at its loop's head, with the n low bits to go -/
theorem less_loop {p : Program} {l : Launch} {e : Env} {R : Room} {s : State} {m : MethodId} {args : Array Value} {below : List Frame} {meth : Method} {c : Code} (x y : Int64) (hx : p.tables.exec = Jvm.exec) (hb : c.code = cX1_less) (hr : meth.sig.returnType = some .boolean) (hlocks : meth.locks = false) :
    ∀ (n : Nat) (v : Int32), n ≤ 64 → v = nI n + (-1) → uN x / 2 ^ n = uN y / 2 ^ n → ∀ ls : Array Slot, lv_has ls 9 [(0, .long x), (2, .long y), (4, .int v)] → W p l e R s m args below meth c s.heap [] 0 0 (MQ below (vp_Si (fun r => r = if uN x < uN y then 1 else 0)) args s 0 0 (fun _ => False)) (F0 m 4 ls []) := by
  intro n
  induction n with
  | zero =>
    intro v _ ev hp ls hl
    have v1 : v < 0 := by rw [ev]; decide
    rw [Nat.pow_zero, Nat.div_one, Nat.div_one] at hp
    refine lv_iload hx hb dX1_less_4 (lv_at hl 2 rfl) ?_
    refine lv_if_lt (tgt := 53) hx hb dX1_less_6 (by decide) (fun c1 => ?_) (fun c1 => ?_)
    · refine lv_iconst (v := 0) hx hb dX1_less_53 (by decide) ?_
      exact W.zret (v := 0) hx hb hr rfl (fun t ht hW => ⟨_, rfl, by rw [hp, if_neg (Nat.lt_irrefl _)], ht⟩) t_nil dX1_less_54
    · exact absurd v1 c1
  | succ n ih =>
    intro v hn ev hp ls hl
    rw [pk_m1] at ev
    subst ev
    refine lv_iload hx hb dX1_less_4 (lv_at hl 2 rfl) ?_
    refine lv_if_lt (tgt := 53) hx hb dX1_less_6 (by decide) (fun c1 => ?_) (fun c1 => ?_)
    · exact absurd c1 (nI_pos (by omega))
    · refine lv_lload_n hx hb dX1_less_9 rfl (lv_at hl 0 rfl) ?_
      refine lv_iload hx hb dX1_less_10 (lv_at hl 2 rfl) ?_
      refine lv_lushr hx hb dX1_less_12 rfl ?_
      refine lv_lconst (v := 1) hx hb dX1_less_13 (by decide) ?_
      refine lv_land hx hb dX1_less_14 ?_
      refine lv_topl (fun a ea => ?_)
      refine lv_lstore (lv' := [(5, .long a), (0, .long x), (2, .long y), (4, .int (nI n))]) hx hb dX1_less_15 hl (by decide) rfl (fun ls hl => ?_)
      refine lv_lload_n hx hb dX1_less_17 rfl (lv_at hl 2 rfl) ?_
      refine lv_iload hx hb dX1_less_18 (lv_at hl 3 rfl) ?_
      refine lv_lushr hx hb dX1_less_20 rfl ?_
      refine lv_lconst (v := 1) hx hb dX1_less_21 (by decide) ?_
      refine lv_land hx hb dX1_less_22 ?_
      refine lv_topl (fun b eb => ?_)
      refine lv_lstore (lv' := [(7, .long b), (5, .long a), (0, .long x), (2, .long y), (4, .int (nI n))]) hx hb dX1_less_23 hl (by decide) rfl (fun ls hl => ?_)
      obtain ⟨g1, g2, g3⟩ := ud_lessB (by omega) hp ea eb
      refine lv_lload hx hb dX1_less_25 (lv_at hl 1 rfl) ?_
      refine lv_lload hx hb dX1_less_27 (lv_at hl 0 rfl) ?_
      refine W.lcmp hx hb dX1_less_29 ?_
      refine lv_if_eq (tgt := 47) hx hb dX1_less_30 (by decide) (fun c2 => ?_) (fun c2 => ?_)
      · obtain ⟨v2, ev2⟩ : ∃ v2 : Int32, v2 = nI n + (-1) := ⟨_, rfl⟩
        refine lv_iinc (v := v2) (lv' := [(4, .int v2), (7, .long b), (5, .long a), (0, .long x), (2, .long y)]) hx hb dX1_less_47 hl (k := 4) rfl (by rw [ev2]; rfl) (by decide) rfl (fun ls hl => ?_)
        refine lv_goto (tgt := 4) hx hb dX1_less_50 (by decide) ?_
        exact ih v2 (by omega) ev2 (g1 c2) ls (lv_sub hl [3, 4, 0] rfl)
      · refine lv_lload hx hb dX1_less_33 (lv_at hl 1 rfl) ?_
        refine lv_lload hx hb dX1_less_35 (lv_at hl 0 rfl) ?_
        refine W.lcmp hx hb dX1_less_37 ?_
        refine lv_if_ge (tgt := 45) hx hb dX1_less_38 (by decide) (fun c3 => ?_) (fun c3 => ?_)
        · refine lv_iconst (v := 0) hx hb dX1_less_45 (by decide) ?_
          exact W.zret (v := 0) hx hb hr rfl (fun t ht hW => ⟨_, rfl, g2 c2 c3, ht⟩) t_nil dX1_less_46
        · refine lv_iconst (v := 1) hx hb dX1_less_41 (by decide) ?_
          refine lv_goto (tgt := 46) hx hb dX1_less_42 (by decide) ?_
          exact W.zret (v := 1) hx hb hr rfl (fun t ht hW => ⟨_, rfl, g3 c3, ht⟩) t_nil dX1_less_46
set_option maxHeartbeats 4000000 in
set_option maxRecDepth 100000 in
/-- less: of two unsigned numbers -/
theorem met_X1_less (l : Launch) (x : Int64) (y : Int64) : Met l yX1_less (ws_ yX1_less cX1_less 9 (some .boolean)) ({ frames := 0, cells := 0, slots := 0, locals := 0 }) (va_Pc [.long x, .long y] (fun _ => True)) (vp_Si (fun r => r = if uN x < uN y then 1 else 0)) 0 0 (fun _ => False) := by
  refine Met.ofW (cc := cX1_less) (maxL := 9) (ret := some .boolean) (by decide) rfl ?_
  intro p e s m args below meth c s₁ B hml hv
  obtain ⟨rfl, -⟩ := hv
  have hx := B.exec
  have hb := B.bytes
  have hr := B.returns
  have hts := atoms_spec (ws := ws_ yX1_less cX1_less 9 (some .boolean)) B.pre
  have hts : ∀ w ∈ lw_all, w.before _ s = true := fun w h => hts w (List.mem_cons_of_mem _ h)
  have hown : s.vm.findClass RX1 = some m.cls := findClass_of_methodNamed B.named
  have hlocks := B.notSynchronized
  have hl := lv_entry ([.long x, .long y]) (n := 9) (Nat.le_of_ble_eq_true rfl)
  rw [lg_entry_eq]
  generalize (lg_sl ([.long x, .long y]) ++ List.replicate (9 - (lg_sl ([.long x, .long y])).length) Slot.unset).toArray = ls at hl ⊢
  have hl : lv_has ls 9 [(0, .long x), (2, .long y)] := hl
  refine lv_bipush (v := 63) hx hb dX1_less_0 (by decide) ?_
  refine lv_istore (lv' := [(4, .int 63), (0, .long x), (2, .long y)]) hx hb dX1_less_2 hl (by decide) rfl (fun ls hl => ?_)
  exact less_loop x y hx hb hr hlocks 64 63 (Nat.le_refl _) (by decide) (ud_le1 x y) ls (lv_sub hl [1, 2, 0] rfl)
set_option maxHeartbeats 4000000 in
set_option maxRecDepth 100000 in
/-- run, at its loop's head, with the n low bits to go; hend: what is behind the loop -/
theorem run_loop {p : Program} {l : Launch} {e : Env} {R : Room} {s : State} {m : MethodId} {args : Array Value} {below : List Frame} {meth : Method} {c : Code} {H : Heap} {locs : List Loc} {cells slots : Nat} {Q : State → Prop} (x y : Int64) (z : Int32) (hx : p.tables.exec = Jvm.exec) (hb : c.code = cX1_run) (hml : c.maxLocals = 11) (hown : s.vm.findClass RX1 = some m.cls) (hts : ∀ w ∈ lw_all, w.before args s = true) (hR : 1 ≤ R.frames ∧ 28 ≤ R.locals) (hf : cells ≤ R.cells ∧ slots ≤ R.slots) (hy : ¬ uN y = 0)
    (hend : ∀ (q r : Int64) (ls : Array Slot), q = ud_div x y → r = ud_rem x y → lv_has ls 11 [(4, .int z), (5, .long q), (7, .long r)] → W p l e R s m args below meth c H locs cells slots Q (F0 m 80 ls [])) :
    ∀ (n : Nat) (v : Int32) (q r : Int64), n ≤ 64 → v = nI n + (-1) → uN q = uN x / 2 ^ n / uN y → uN r = uN x / 2 ^ n % uN y → ∀ ls : Array Slot, lv_has ls 11 [(0, .long x), (2, .long y), (4, .int z), (5, .long q), (7, .long r), (9, .int v)] → W p l e R s m args below meth c H locs cells slots Q (F0 m 10 ls []) := by
  intro n
  induction n with
  | zero =>
    intro v q r _ ev hq hr ls hl
    have v1 : v < 0 := by rw [ev]; decide
    obtain ⟨e1, e2⟩ := ud_runE hq hr
    refine lv_iload hx hb dX1_run_10 (lv_at hl 5 rfl) ?_
    refine lv_if_lt (tgt := 80) hx hb dX1_run_12 (by decide) (fun c1 => ?_) (fun c1 => ?_)
    · exact hend q r ls e1 e2 (lv_sub hl [2, 3, 4] rfl)
    · exact absurd v1 c1
  | succ n ih =>
    intro v q r hn ev hq hr ls hl
    rw [pk_m1] at ev
    subst ev
    have K74 : ∀ (q2 r2 : Int64) (ls : Array Slot), uN q2 = uN x / 2 ^ n / uN y → uN r2 = uN x / 2 ^ n % uN y → lv_has ls 11 [(0, .long x), (2, .long y), (4, .int z), (5, .long q2), (7, .long r2), (9, .int (nI n))] → W p l e R s m args below meth c H locs cells slots Q (F0 m 74 ls []) := by
      intro q2 r2 ls hq2 hr2 hl
      obtain ⟨v2, ev2⟩ : ∃ v2 : Int32, v2 = nI n + (-1) := ⟨_, rfl⟩
      refine lv_iinc (v := v2) (lv' := [(9, .int v2), (0, .long x), (2, .long y), (4, .int z), (5, .long q2), (7, .long r2)]) hx hb dX1_run_74 hl (k := 5) rfl (by rw [ev2]; rfl) (by decide) rfl (fun ls hl => ?_)
      refine lv_goto (tgt := 10) hx hb dX1_run_77 (by decide) ?_
      exact ih v2 q2 r2 (by omega) ev2 hq2 hr2 ls (lv_sub hl [1, 2, 3, 4, 5, 0] rfl)
    have K27 : ∀ (o : Int32) (ls : Array Slot), (¬ o = 0 ↔ r < 0) → lv_has ls 11 [(0, .long x), (2, .long y), (4, .int z), (5, .long q), (7, .long r), (9, .int (nI n))] → W p l e R s m args below meth c H locs cells slots Q (F0 m 27 ls [.int o]) := by
      intro o ls ho hl
      refine lv_istore (lv' := [(10, .int o), (0, .long x), (2, .long y), (4, .int z), (5, .long q), (7, .long r), (9, .int (nI n))]) hx hb dX1_run_27 hl (by decide) rfl (fun ls hl => ?_)
      refine lv_lload hx hb dX1_run_29 (lv_at hl 5 rfl) ?_
      refine lv_iconst (v := 1) hx hb dX1_run_31 (by decide) ?_
      refine lv_lshl hx hb dX1_run_32 rfl ?_
      refine lv_lload_n hx hb dX1_run_33 rfl (lv_at hl 1 rfl) ?_
      refine lv_iload hx hb dX1_run_34 (lv_at hl 6 rfl) ?_
      refine lv_lushr hx hb dX1_run_36 rfl ?_
      refine lv_lconst (v := 1) hx hb dX1_run_37 (by decide) ?_
      refine lv_land hx hb dX1_run_38 ?_
      refine lv_lor hx hb dX1_run_39 ?_
      refine lv_topl (fun r1 er1 => ?_)
      refine lv_lstore (lv' := [(7, .long r1), (10, .int o), (0, .long x), (2, .long y), (4, .int z), (5, .long q), (9, .int (nI n))]) hx hb dX1_run_40 hl (by decide) rfl (fun ls hl => ?_)
      refine lv_lload hx hb dX1_run_42 (lv_at hl 5 rfl) ?_
      refine lv_iconst (v := 1) hx hb dX1_run_44 (by decide) ?_
      refine lv_lshl hx hb dX1_run_45 rfl ?_
      refine lv_topl (fun q1 eq1 => ?_)
      refine lv_lstore (lv' := [(5, .long q1), (7, .long r1), (10, .int o), (0, .long x), (2, .long y), (4, .int z), (9, .int (nI n))]) hx hb dX1_run_46 hl (by decide) rfl (fun ls hl => ?_)
      obtain ⟨g1, g2⟩ := ud_runB (by omega) hy hq hr eq1 er1
      have K62 : (r < 0 ∨ ¬ uN r1 < uN y) → W p l e R s m args below meth c H locs cells slots Q (F0 m 62 ls []) := by
        intro hor
        obtain ⟨s1, s2⟩ := g1 hor
        refine lv_lload hx hb dX1_run_62 (lv_at hl 1 rfl) ?_
        refine lv_lload_n hx hb dX1_run_64 rfl (lv_at hl 4 rfl) ?_
        refine lv_lsub hx hb dX1_run_65 ?_
        refine lv_topl (fun r2 er2 => ?_)
        refine lv_lstore (lv' := [(7, .long r2), (5, .long q1), (10, .int o), (0, .long x), (2, .long y), (4, .int z), (9, .int (nI n))]) hx hb dX1_run_66 hl (by decide) rfl (fun ls hl => ?_)
        refine lv_lload hx hb dX1_run_68 (lv_at hl 1 rfl) ?_
        refine lv_lconst (v := 1) hx hb dX1_run_70 (by decide) ?_
        refine lv_lor hx hb dX1_run_71 ?_
        refine lv_topl (fun q2 eq2 => ?_)
        refine lv_lstore (lv' := [(5, .long q2), (7, .long r2), (10, .int o), (0, .long x), (2, .long y), (4, .int z), (9, .int (nI n))]) hx hb dX1_run_72 hl (by decide) rfl (fun ls hl => ?_)
        exact K74 q2 r2 ls (by rw [eq2]; exact s1) (by rw [er2]; exact s2) (lv_sub hl [3, 4, 5, 0, 1, 6] rfl)
      refine lv_iload hx hb dX1_run_48 (lv_at hl 2 rfl) ?_
      refine lv_if_ne (tgt := 62) hx hb dX1_run_50 (by decide) (fun c1 => ?_) (fun c1 => ?_)
      · exact K62 (Or.inl (ho.mp c1))
      · have nr : ¬ r < 0 := fun z1 => ho.mpr z1 c1
        refine lv_lload hx hb dX1_run_53 (lv_at hl 1 rfl) ?_
        refine lv_lload_n hx hb dX1_run_55 rfl (lv_at hl 4 rfl) ?_
        refine vp_callSi (W.runS (As := [.long r1, .long y]) (rest := []) ⟨hx, hb, hml, hown, hts⟩ (met_X1_less l r1 y) (va_cwS 2 hts (lw_S q71 q72 q2 q73) rfl rfl rfl (by decide +kernel) ⟨hR.1, hR.2⟩) ⟨fun _ _ _ _ q => q, fun _ _ _ => ⟨rfl, trivial⟩⟩ rfl rfl hl.1 rfl (lv_room (Nat.le_of_ble_eq_true rfl)) dX1_run_56 ⟨hf.1, hf.2⟩) (fun w hw => ?_)
        refine lv_if_ne (tgt := 74) hx hb dX1_run_59 (by decide) (fun c2 => ?_) (fun c2 => ?_)
        · have s0 : uN r1 < uN y := Classical.byContradiction (fun z1 => c2 (by rw [hw, if_neg z1]))
          obtain ⟨s1, s2⟩ := g2 nr s0
          exact K74 q1 r1 ls s1 s2 (lv_sub hl [3, 4, 5, 0, 1, 6] rfl)
        · exact K62 (Or.inr (fun z1 => absurd (hw.symm.trans c2) (by rw [if_pos z1]; decide)))
    refine lv_iload hx hb dX1_run_10 (lv_at hl 5 rfl) ?_
    refine lv_if_lt (tgt := 80) hx hb dX1_run_12 (by decide) (fun c1 => ?_) (fun c1 => ?_)
    · exact absurd c1 (nI_pos (by omega))
    · refine lv_lload hx hb dX1_run_15 (lv_at hl 4 rfl) ?_
      refine lv_lconst (v := 0) hx hb dX1_run_17 (by decide) ?_
      refine W.lcmp hx hb dX1_run_18 ?_
      refine lv_if_ge (tgt := 26) hx hb dX1_run_19 (by decide) (fun c2 => ?_) (fun c2 => ?_)
      · refine lv_iconst (v := 0) hx hb dX1_run_26 (by decide) ?_
        exact K27 0 ls ⟨fun z1 => absurd rfl z1, fun z1 => absurd z1 (ud_ge0 c2)⟩ hl
      · refine lv_iconst (v := 1) hx hb dX1_run_22 (by decide) ?_
        refine lv_goto (tgt := 27) hx hb dX1_run_23 (by decide) ?_
        exact K27 1 ls ⟨fun _ => ud_lt0 c2, fun _ => by decide⟩ hl
set_option maxHeartbeats 4000000 in
set_option maxRecDepth 100000 in
/-- run: bit by bit, by a number that isn't zero -/
theorem met_X1_run (l : Launch) (x : Int64) (y : Int64) (z : Int32) (hy : ¬ uN y = 0) : Met l yX1_run (ws_ yX1_run cX1_run 11 (some .long)) ({ frames := 1, cells := 0, slots := 0, locals := 28 }) (va_Pc [.long x, .long y, .int z] (fun _ => True)) (vp_Sl (fun r => r = if z = 0 then ud_div x y else ud_rem x y)) 0 0 (fun _ => False) := by
  refine Met.ofW (cc := cX1_run) (maxL := 11) (ret := some .long) (by decide) rfl ?_
  intro p e s m args below meth c s₁ B hml hv
  obtain ⟨rfl, -⟩ := hv
  have hx := B.exec
  have hb := B.bytes
  have hr := B.returns
  have hts := atoms_spec (ws := ws_ yX1_run cX1_run 11 (some .long)) B.pre
  have hts : ∀ w ∈ lw_all, w.before _ s = true := fun w h => hts w (List.mem_cons_of_mem _ h)
  have hown : s.vm.findClass RX1 = some m.cls := findClass_of_methodNamed B.named
  have hlocks := B.notSynchronized
  have hl := lv_entry ([.long x, .long y, .int z]) (n := 11) (Nat.le_of_ble_eq_true rfl)
  rw [lg_entry_eq]
  generalize (lg_sl ([.long x, .long y, .int z]) ++ List.replicate (11 - (lg_sl ([.long x, .long y, .int z])).length) Slot.unset).toArray = ls at hl ⊢
  have hl : lv_has ls 11 [(0, .long x), (2, .long y), (4, .int z)] := hl
  refine lv_lconst (v := 0) hx hb dX1_run_0 (by decide) ?_
  refine lv_lstore (lv' := [(5, .long 0), (0, .long x), (2, .long y), (4, .int z)]) hx hb dX1_run_1 hl (by decide) rfl (fun ls hl => ?_)
  refine lv_lconst (v := 0) hx hb dX1_run_3 (by decide) ?_
  refine lv_lstore (lv' := [(7, .long 0), (5, .long 0), (0, .long x), (2, .long y), (4, .int z)]) hx hb dX1_run_4 hl (by decide) rfl (fun ls hl => ?_)
  refine lv_bipush (v := 63) hx hb dX1_run_6 (by decide) ?_
  refine lv_istore (lv' := [(9, .int 63), (7, .long 0), (5, .long 0), (0, .long x), (2, .long y), (4, .int z)]) hx hb dX1_run_8 hl (by decide) rfl (fun ls hl => ?_)
  refine run_loop x y z hx hb hml hown hts ⟨Nat.le_of_ble_eq_true rfl, Nat.le_of_ble_eq_true rfl⟩ ⟨Nat.zero_le _, Nat.zero_le _⟩ hy ?_ 64 63 0 0 (Nat.le_refl _) (by decide) (ud_run0 x y).1 (ud_run0 x y).2 ls (lv_sub hl [3, 4, 5, 2, 1, 0] rfl)
  intro q r ls eq er hl
  refine lv_iload hx hb dX1_run_80 (lv_at hl 0 rfl) ?_
  refine lv_if_eq (tgt := 90) hx hb dX1_run_82 (by decide) (fun c1 => ?_) (fun c1 => ?_)
  · refine lv_lload hx hb dX1_run_90 (lv_at hl 1 rfl) ?_
    exact W.lret hx hb hr (fun t ht hW => ⟨_, rfl, by rw [if_pos c1]; exact eq, ht⟩) t_nil dX1_run_92
  · refine lv_lload hx hb dX1_run_85 (lv_at hl 2 rfl) ?_
    refine lv_goto (tgt := 92) hx hb dX1_run_87 (by decide) ?_
    exact W.lret hx hb hr (fun t ht hW => ⟨_, rfl, by rw [if_neg c1]; exact er, ht⟩) t_nil dX1_run_92
set_option maxHeartbeats 4000000 in
set_option maxRecDepth 100000 in
/-- UnsignedDeskModel.divide -/
theorem met_X1_divide (l : Launch) (h0 : Nat) (a : Int32) (b : Int32) (cc : Int32) (dd : Int32) : Met l yX1_divide (ws_ yX1_divide cX1_divide 7 (some .long)) ({ frames := 2, cells := 0, slots := 0, locals := 58 }) (va_Pc [.ref h0, .int a, .int b, .int cc, .int dd] (fun _ => True)) (vp_Sl (fun r => r = ud_D a b cc dd)) 0 0 (fun _ => False) := by
  refine Met.ofW (cc := cX1_divide) (maxL := 7) (ret := some .long) (by decide) rfl ?_
  intro p e s m args below meth c s₁ B hml hv
  obtain ⟨rfl, -⟩ := hv
  have hx := B.exec
  have hb := B.bytes
  have hr := B.returns
  have hts := atoms_spec (ws := ws_ yX1_divide cX1_divide 7 (some .long)) B.pre
  have hts : ∀ w ∈ lw_all, w.before _ s = true := fun w h => hts w (List.mem_cons_of_mem _ h)
  have hown : s.vm.findClass RX1 = some m.cls := findClass_of_methodNamed B.named
  have hlocks := B.notSynchronized
  have hl := lv_entry ([.ref h0, .int a, .int b, .int cc, .int dd]) (n := 7) (Nat.le_of_ble_eq_true rfl)
  rw [lg_entry_eq]
  generalize (lg_sl ([.ref h0, .int a, .int b, .int cc, .int dd]) ++ List.replicate (7 - (lg_sl ([.ref h0, .int a, .int b, .int cc, .int dd])).length) Slot.unset).toArray = ls at hl ⊢
  have hl : lv_has ls 7 [(0, .ref h0), (1, .int a), (2, .int b), (3, .int cc), (4, .int dd)] := hl
  refine lv_iload_n hx hb dX1_divide_0 rfl (lv_at hl 3 rfl) ?_
  refine lv_iload hx hb dX1_divide_1 (lv_at hl 4 rfl) ?_
  refine vp_callSl (W.runS (As := [.int cc, .int dd]) (rest := []) ⟨hx, hb, hml, hown, hts⟩ (met_X1_wide l cc dd) (va_cwS 2 hts (lw_S q63 q64 q2 q65) rfl rfl rfl (by decide +kernel) ⟨Nat.le_of_ble_eq_true rfl, Nat.le_of_ble_eq_true rfl⟩) ⟨fun _ _ _ _ q => q, fun _ _ _ => ⟨rfl, trivial⟩⟩ rfl rfl hl.1 rfl (lv_room (Nat.le_of_ble_eq_true rfl)) dX1_divide_3 ⟨Nat.zero_le _, Nat.zero_le _⟩) (fun y hy => ?_)
  refine lv_lstore (lv' := [(5, .long y), (0, .ref h0), (1, .int a), (2, .int b), (3, .int cc), (4, .int dd)]) hx hb dX1_divide_6 hl (by decide) rfl (fun ls hl => ?_)
  refine lv_lload hx hb dX1_divide_8 (lv_at hl 0 rfl) ?_
  refine lv_lconst (v := 0) hx hb dX1_divide_10 (by decide) ?_
  refine W.lcmp hx hb dX1_divide_11 ?_
  refine lv_if_ne (tgt := 21) hx hb dX1_divide_12 (by decide) (fun c1 => ?_) (fun c1 => ?_)
  · have y0 : ¬ y = 0 := fun z => c1 ((lg_cmp_eq y 0).mpr z)
    refine lv_iload_n hx hb dX1_divide_21 rfl (lv_at hl 2 rfl) ?_
    refine lv_iload_n hx hb dX1_divide_22 rfl (lv_at hl 3 rfl) ?_
    refine vp_callSl (W.runS (As := [.int a, .int b]) (rest := []) ⟨hx, hb, hml, hown, hts⟩ (met_X1_wide l a b) (va_cwS 2 hts (lw_S q63 q64 q2 q65) rfl rfl rfl (by decide +kernel) ⟨Nat.le_of_ble_eq_true rfl, Nat.le_of_ble_eq_true rfl⟩) ⟨fun _ _ _ _ q => q, fun _ _ _ => ⟨rfl, trivial⟩⟩ rfl rfl hl.1 rfl (lv_room (Nat.le_of_ble_eq_true rfl)) dX1_divide_23 ⟨Nat.zero_le _, Nat.zero_le _⟩) (fun x hw => ?_)
    refine lv_lload hx hb dX1_divide_26 (lv_at hl 0 rfl) ?_
    refine lv_iconst (v := 0) hx hb dX1_divide_28 (by decide) ?_
    refine vp_callSl (W.runS (As := [.long x, .long y, .int 0]) (rest := []) ⟨hx, hb, hml, hown, hts⟩ (met_X1_run l x y 0 (fun z => y0 ((ud_zero y).mpr z))) (va_cwS 3 hts (lw_S q68 q69 q2 q70) rfl rfl rfl (by decide +kernel) ⟨Nat.le_of_ble_eq_true rfl, Nat.le_of_ble_eq_true rfl⟩) ⟨fun _ _ _ _ q => q, fun _ _ _ => ⟨rfl, trivial⟩⟩ rfl rfl hl.1 rfl (lv_room (Nat.le_of_ble_eq_true rfl)) dX1_divide_29 ⟨Nat.zero_le _, Nat.zero_le _⟩) (fun r h => ?_)
    exact W.lret hx hb hr (fun t ht hW => ⟨_, rfl, by rw [h, if_pos rfl, hw]; unfold ud_D; rw [← hy, if_neg y0], ht⟩) t_nil dX1_divide_32
  · refine lv_ldc2 hx hb hown (hts _ q67) dX1_divide_15 ?_
    refine lv_goto (tgt := 32) hx hb dX1_divide_18 (by decide) ?_
    exact W.lret hx hb hr (fun t ht hW => ⟨_, rfl, by unfold ud_D; rw [← hy, if_pos ((lg_cmp_eq y 0).mp c1)], ht⟩) t_nil dX1_divide_32
set_option maxHeartbeats 4000000 in
set_option maxRecDepth 100000 in
/-- UnsignedDeskModel.remainder -/
theorem met_X1_remainder (l : Launch) (h0 : Nat) (a : Int32) (b : Int32) (cc : Int32) (dd : Int32) : Met l yX1_remainder (ws_ yX1_remainder cX1_remainder 7 (some .long)) ({ frames := 2, cells := 0, slots := 0, locals := 58 }) (va_Pc [.ref h0, .int a, .int b, .int cc, .int dd] (fun _ => True)) (vp_Sl (fun r => r = ud_R a b cc dd)) 0 0 (fun _ => False) := by
  refine Met.ofW (cc := cX1_remainder) (maxL := 7) (ret := some .long) (by decide) rfl ?_
  intro p e s m args below meth c s₁ B hml hv
  obtain ⟨rfl, -⟩ := hv
  have hx := B.exec
  have hb := B.bytes
  have hr := B.returns
  have hts := atoms_spec (ws := ws_ yX1_remainder cX1_remainder 7 (some .long)) B.pre
  have hts : ∀ w ∈ lw_all, w.before _ s = true := fun w h => hts w (List.mem_cons_of_mem _ h)
  have hown : s.vm.findClass RX1 = some m.cls := findClass_of_methodNamed B.named
  have hlocks := B.notSynchronized
  have hl := lv_entry ([.ref h0, .int a, .int b, .int cc, .int dd]) (n := 7) (Nat.le_of_ble_eq_true rfl)
  rw [lg_entry_eq]
  generalize (lg_sl ([.ref h0, .int a, .int b, .int cc, .int dd]) ++ List.replicate (7 - (lg_sl ([.ref h0, .int a, .int b, .int cc, .int dd])).length) Slot.unset).toArray = ls at hl ⊢
  have hl : lv_has ls 7 [(0, .ref h0), (1, .int a), (2, .int b), (3, .int cc), (4, .int dd)] := hl
  refine lv_iload_n hx hb dX1_remainder_0 rfl (lv_at hl 3 rfl) ?_
  refine lv_iload hx hb dX1_remainder_1 (lv_at hl 4 rfl) ?_
  refine vp_callSl (W.runS (As := [.int cc, .int dd]) (rest := []) ⟨hx, hb, hml, hown, hts⟩ (met_X1_wide l cc dd) (va_cwS 2 hts (lw_S q63 q64 q2 q65) rfl rfl rfl (by decide +kernel) ⟨Nat.le_of_ble_eq_true rfl, Nat.le_of_ble_eq_true rfl⟩) ⟨fun _ _ _ _ q => q, fun _ _ _ => ⟨rfl, trivial⟩⟩ rfl rfl hl.1 rfl (lv_room (Nat.le_of_ble_eq_true rfl)) dX1_remainder_3 ⟨Nat.zero_le _, Nat.zero_le _⟩) (fun y hy => ?_)
  refine lv_lstore (lv' := [(5, .long y), (0, .ref h0), (1, .int a), (2, .int b), (3, .int cc), (4, .int dd)]) hx hb dX1_remainder_6 hl (by decide) rfl (fun ls hl => ?_)
  refine lv_lload hx hb dX1_remainder_8 (lv_at hl 0 rfl) ?_
  refine lv_lconst (v := 0) hx hb dX1_remainder_10 (by decide) ?_
  refine W.lcmp hx hb dX1_remainder_11 ?_
  refine lv_if_ne (tgt := 21) hx hb dX1_remainder_12 (by decide) (fun c1 => ?_) (fun c1 => ?_)
  · have y0 : ¬ y = 0 := fun z => c1 ((lg_cmp_eq y 0).mpr z)
    refine lv_iload_n hx hb dX1_remainder_21 rfl (lv_at hl 2 rfl) ?_
    refine lv_iload_n hx hb dX1_remainder_22 rfl (lv_at hl 3 rfl) ?_
    refine vp_callSl (W.runS (As := [.int a, .int b]) (rest := []) ⟨hx, hb, hml, hown, hts⟩ (met_X1_wide l a b) (va_cwS 2 hts (lw_S q63 q64 q2 q65) rfl rfl rfl (by decide +kernel) ⟨Nat.le_of_ble_eq_true rfl, Nat.le_of_ble_eq_true rfl⟩) ⟨fun _ _ _ _ q => q, fun _ _ _ => ⟨rfl, trivial⟩⟩ rfl rfl hl.1 rfl (lv_room (Nat.le_of_ble_eq_true rfl)) dX1_remainder_23 ⟨Nat.zero_le _, Nat.zero_le _⟩) (fun x hw => ?_)
    refine lv_lload hx hb dX1_remainder_26 (lv_at hl 0 rfl) ?_
    refine lv_iconst (v := 1) hx hb dX1_remainder_28 (by decide) ?_
    refine vp_callSl (W.runS (As := [.long x, .long y, .int 1]) (rest := []) ⟨hx, hb, hml, hown, hts⟩ (met_X1_run l x y 1 (fun z => y0 ((ud_zero y).mpr z))) (va_cwS 3 hts (lw_S q68 q69 q2 q70) rfl rfl rfl (by decide +kernel) ⟨Nat.le_of_ble_eq_true rfl, Nat.le_of_ble_eq_true rfl⟩) ⟨fun _ _ _ _ q => q, fun _ _ _ => ⟨rfl, trivial⟩⟩ rfl rfl hl.1 rfl (lv_room (Nat.le_of_ble_eq_true rfl)) dX1_remainder_29 ⟨Nat.zero_le _, Nat.zero_le _⟩) (fun r h => ?_)
    exact W.lret hx hb hr (fun t ht hW => ⟨_, rfl, by rw [h, if_neg (by decide), hw]; unfold ud_R; rw [← hy, if_neg y0], ht⟩) t_nil dX1_remainder_32
  · refine lv_ldc2 hx hb hown (hts _ q67) dX1_remainder_15 ?_
    refine lv_goto (tgt := 32) hx hb dX1_remainder_18 (by decide) ?_
    exact W.lret hx hb hr (fun t ht hW => ⟨_, rfl, by unfold ud_R; rw [← hy, if_pos ((lg_cmp_eq y 0).mp c1)], ht⟩) t_nil dX1_remainder_32
set_option maxHeartbeats 4000000 in
set_option maxRecDepth 100000 in
/-- UnsignedDeskModel.compare -/
theorem met_X1_compare (l : Launch) (h0 : Nat) (a : Int32) (b : Int32) (cc : Int32) (dd : Int32) : Met l yX1_compare (ws_ yX1_compare cX1_compare 9 (some .int)) ({ frames := 1, cells := 0, slots := 0, locals := 28 }) (va_Pc [.ref h0, .int a, .int b, .int cc, .int dd] (fun _ => True)) (vp_Si (fun r => r = ud_C a b cc dd)) 0 0 (fun _ => False) := by
  refine Met.ofW (cc := cX1_compare) (maxL := 9) (ret := some .int) (by decide) rfl ?_
  intro p e s m args below meth c s₁ B hml hv
  obtain ⟨rfl, -⟩ := hv
  have hx := B.exec
  have hb := B.bytes
  have hr := B.returns
  have hts := atoms_spec (ws := ws_ yX1_compare cX1_compare 9 (some .int)) B.pre
  have hts : ∀ w ∈ lw_all, w.before _ s = true := fun w h => hts w (List.mem_cons_of_mem _ h)
  have hown : s.vm.findClass RX1 = some m.cls := findClass_of_methodNamed B.named
  have hlocks := B.notSynchronized
  have hl := lv_entry ([.ref h0, .int a, .int b, .int cc, .int dd]) (n := 9) (Nat.le_of_ble_eq_true rfl)
  rw [lg_entry_eq]
  generalize (lg_sl ([.ref h0, .int a, .int b, .int cc, .int dd]) ++ List.replicate (9 - (lg_sl ([.ref h0, .int a, .int b, .int cc, .int dd])).length) Slot.unset).toArray = ls at hl ⊢
  have hl : lv_has ls 9 [(0, .ref h0), (1, .int a), (2, .int b), (3, .int cc), (4, .int dd)] := hl
  refine lv_iload_n hx hb dX1_compare_0 rfl (lv_at hl 1 rfl) ?_
  refine lv_iload_n hx hb dX1_compare_1 rfl (lv_at hl 2 rfl) ?_
  refine vp_callSl (W.runS (As := [.int a, .int b]) (rest := []) ⟨hx, hb, hml, hown, hts⟩ (met_X1_wide l a b) (va_cwS 2 hts (lw_S q63 q64 q2 q65) rfl rfl rfl (by decide +kernel) ⟨Nat.le_of_ble_eq_true rfl, Nat.le_of_ble_eq_true rfl⟩) ⟨fun _ _ _ _ q => q, fun _ _ _ => ⟨rfl, trivial⟩⟩ rfl rfl hl.1 rfl (lv_room (Nat.le_of_ble_eq_true rfl)) dX1_compare_2 ⟨Nat.zero_le _, Nat.zero_le _⟩) (fun x hw => ?_)
  refine lv_lstore (lv' := [(5, .long x), (0, .ref h0), (1, .int a), (2, .int b), (3, .int cc), (4, .int dd)]) hx hb dX1_compare_5 hl (by decide) rfl (fun ls hl => ?_)
  refine lv_iload_n hx hb dX1_compare_7 rfl (lv_at hl 4 rfl) ?_
  refine lv_iload hx hb dX1_compare_8 (lv_at hl 5 rfl) ?_
  refine vp_callSl (W.runS (As := [.int cc, .int dd]) (rest := []) ⟨hx, hb, hml, hown, hts⟩ (met_X1_wide l cc dd) (va_cwS 2 hts (lw_S q63 q64 q2 q65) rfl rfl rfl (by decide +kernel) ⟨Nat.le_of_ble_eq_true rfl, Nat.le_of_ble_eq_true rfl⟩) ⟨fun _ _ _ _ q => q, fun _ _ _ => ⟨rfl, trivial⟩⟩ rfl rfl hl.1 rfl (lv_room (Nat.le_of_ble_eq_true rfl)) dX1_compare_10 ⟨Nat.zero_le _, Nat.zero_le _⟩) (fun y hy => ?_)
  refine lv_lstore (lv' := [(7, .long y), (5, .long x), (0, .ref h0), (1, .int a), (2, .int b), (3, .int cc), (4, .int dd)]) hx hb dX1_compare_13 hl (by decide) rfl (fun ls hl => ?_)
  obtain ⟨g1, g2, g3⟩ := ud_cmpM x y
  have hE : ud_cmp x y = ud_C a b cc dd := by rw [hw, hy]; rfl
  rw [← hE]
  refine lv_lload hx hb dX1_compare_15 (lv_at hl 1 rfl) ?_
  refine lv_lload hx hb dX1_compare_17 (lv_at hl 0 rfl) ?_
  refine vp_callSi (W.runS (As := [.long x, .long y]) (rest := []) ⟨hx, hb, hml, hown, hts⟩ (met_X1_less l x y) (va_cwS 2 hts (lw_S q71 q72 q2 q73) rfl rfl rfl (by decide +kernel) ⟨Nat.le_of_ble_eq_true rfl, Nat.le_of_ble_eq_true rfl⟩) ⟨fun _ _ _ _ q => q, fun _ _ _ => ⟨rfl, trivial⟩⟩ rfl rfl hl.1 rfl (lv_room (Nat.le_of_ble_eq_true rfl)) dX1_compare_19 ⟨Nat.zero_le _, Nat.zero_le _⟩) (fun z hz => ?_)
  refine lv_if_eq (tgt := 29) hx hb dX1_compare_22 (by decide) (fun c1 => ?_) (fun c1 => ?_)
  · have n1 : ¬ uN x < uN y := fun z1 => absurd (hz.symm.trans c1) (by rw [if_pos z1]; decide)
    refine lv_lload hx hb dX1_compare_29 (lv_at hl 1 rfl) ?_
    refine lv_lload hx hb dX1_compare_31 (lv_at hl 0 rfl) ?_
    refine W.lcmp hx hb dX1_compare_33 ?_
    refine lv_if_ne (tgt := 41) hx hb dX1_compare_34 (by decide) (fun c2 => ?_) (fun c2 => ?_)
    · refine lv_iconst (v := 1) hx hb dX1_compare_41 (by decide) ?_
      exact W.iret hx hb hr (fun t ht hW => ⟨_, rfl, g3 n1 c2, ht⟩) t_nil dX1_compare_42
    · refine lv_iconst (v := 0) hx hb dX1_compare_37 (by decide) ?_
      refine lv_goto (tgt := 42) hx hb dX1_compare_38 (by decide) ?_
      exact W.iret hx hb hr (fun t ht hW => ⟨_, rfl, g2 n1 c2, ht⟩) t_nil dX1_compare_42
  · refine lv_iconst (v := (-1)) hx hb dX1_compare_25 (by decide) ?_
    refine lv_goto (tgt := 42) hx hb dX1_compare_26 (by decide) ?_
    exact W.iret hx hb hr (fun t ht hW => ⟨_, rfl, g1 (Classical.byContradiction (fun z1 => c1 (by rw [hz, if_neg z1]))), ht⟩) t_nil dX1_compare_42
end
section
/-! two classes without fields -/
def TX_none : u_T := fun _ => ("", "", "", false)
def tyX_none : Nat → FieldType := fun _ => .int
theorem tyX_ok : ∀ k, k < 0 → parseFieldDescriptor (TX_none k).2.2.1 = some (tyX_none k) := fun k h => absurd h (Nat.not_lt_zero k)
theorem in_X0 : ∀ w ∈ u_ws RX0 TX_none 0, w ∈ lw_all := fun w h => absurd (show w ∈ ([] : List Cond) from h) List.not_mem_nil
theorem in_X1 : ∀ w ∈ u_ws RX1 TX_none 0, w ∈ lw_all := fun w h => absurd (show w ∈ ([] : List Cond) from h) List.not_mem_nil
abbrev ud_cl : List vw_C := [(RX0, TX_none, 0), (RX1, TX_none, 0)]
theorem law_go {L i : Nat} (hL : L ≤ 384) (hi : i ≤ L) (h : ¬ Int32.ofNat L - 6 < nI i) : i + 6 ≤ L := by
  have e : (Int32.ofNat L - 6).toInt = (L : Int) - ((6 : Nat) : Int) := pk_sub_toInt (a := L) (b := 6) (by omega) (by omega)
  rw [Int32.lt_iff_toInt_lt, e, nI_toInt (by omega)] at h
  omega
theorem law_ix {L i k : Nat} {v : Int32} (hL : L ≤ 384) (ev : v = nI i) (h : i + k < L) : vp_in (v + nI k) L := by
  rw [ev, nI_add]
  exact vp_in_nI h (by omega)
theorem law_out {w : Int32} (h0 : ¬ w = 0) (h1 : ¬ w = 1) (h2 : ¬ w = 2) : w.toInt < 0 ∨ 2 < w.toInt := by
  have a0 := lv_neT h0 (a := 0) rfl
  have a1 := lv_neT h1 (a := 1) rfl
  have a2 := lv_neT h2 (a := 2) rfl
  omega
/-! THE CLAIM OUT OF ONE WALK OF THE LAW'S BODY. Your part is whole_start (and what it stands on); all else here is the same for every law, but numbers. -/
def R_law : String := "UnsignedDeskLaw"
def lw_P (b : Addr) (xs : List Int32) (args : Array Value) (s : State) : Prop := args = #[.ref b] ∧ s.IntsAt b xs ∧ xs.length ≤ 384 ∧ (Jvm.Cond.and given_1 narrow_1).before args s = true
def lw_Q (_ : Array Value) (s : State) (o : Outcome) (t : State) : Prop := o = .returned (some (.int 1)) ∧ Framed s o t [] 600000 7290000
def lw_Z (below : List Frame) (a : Array Value) (s : State) : State → Prop := fun t => ∃ o, t.status = .running ∧ Ended t below o ∧ lw_Q a s o t
/-- the law's own end, with 1 on the stack, nothing written that was there before, its room as the claim has it -/
theorem lw_ret {p : Program} {l : Launch} {e : Env} {s : State} {m : MethodId} {below : List Frame} {meth : Method} {c : Code} {b : Nat} (hx : p.tables.exec = Jvm.exec) (hb : c.code = code) (hr : meth.sig.returnType = ret) (hlocks : meth.locks = false) {pc : Nat} {H : Heap} {ls : Array Slot} (hdg : decode code pc = .ok (.ireturn, 1)) : W p l e room_1 s m #[Value.ref b] below meth c H [] 600000 7290000 (lw_Z below #[Value.ref b] s) (F0 m pc ls [.int 1]) := by
  intro T hT X
  obtain ⟨fs, hret, hrun, hended, hW, hframe⟩ := X.leave (v := some (.int 1)) (hlocks := hlocks) (fun h => by rw [hr] at h; cases h)
  have hmeth' : T.vm.method? m = some meth := X.method'
  refine ⟨T.setFrames fs, ?_, .returned (some (.int 1)), hrun, hended, rfl, ⟨_, rfl⟩, hW, hframe⟩
  jvm_step X.here [X.here.top, hx, hb, hdg, hmeth', hr, ret, narrow_b1]
  (try refine ⟨rfl, ?_⟩); (try refine ⟨rfl, ?_⟩)
  first | (intro acts; rw [hret _ acts rfl rfl rfl]) | rw [hret _ _ rfl rfl rfl]
  exact Steps.refl _
/-- what holds at the law's entry: the machine, the code, the tables' words (any of lw_tbl by 'hts w (by decide +kernel)'), the script of L ints xs at the cell b, what the Statement gives of the start (any of its parts by flat_of_before) -/
def lw_At (p : Program) (s : State) (m : MethodId) (meth : Method) (c : Code) (b L : Nat) (xs : Nat → Int32) : Prop :=
  p.tables.exec = Jvm.exec ∧ c.code = code ∧ meth.sig.returnType = ret ∧ c.maxLocals = 4 ∧ s.vm.findClass R_law = some m.cls ∧ (∀ w ∈ lw_tbl, w.before #[Value.ref b] s = true) ∧ va_X b L xs s s.heap ∧ b < s.heap.size ∧ meth.locks = false ∧ (Jvm.Cond.and given_1 narrow_1).before #[Value.ref b] s = true
set_option maxHeartbeats 4000000 in
set_option maxRecDepth 100000 in
/-- THE LAW'S LOOP at its head, with i ints read: both objects are there, nothing else has changed -/
theorem law_loop {p : Program} {l : Launch} {e : Env} {s : State} {m : MethodId} {below : List Frame} {meth : Method} {c : Code} {dC : Nat → ClassId} {dI : Nat → Nat → Nat} {b L : Nat} {xs : Nat → Int32} (hL : L ≤ 384) (C0 : lw_At p s m meth c b L xs) (qx qm : Nat) (H : Heap) (hK : va_K (dC, dI) ud_cl [] s) (hP : va_P (dC, dI) ud_cl [(qx, .inr (0, [])), (qm, .inr (1, []))] H) (hS : va_S (fun q : Nat => s.heap.size ≤ q) s.heap H []) :
    ∀ (n i : Nat) (v : Int32), i ≤ L → L + 1 ≤ i + n → v = nI i → ∀ ls : Array Slot, lv_has ls 4 [(0, .ref b), (1, .ref qx), (2, .ref qm), (3, .int v)] → W p l e room_1 s m #[Value.ref b] below meth c H [] 2 0 (lw_Z below #[Value.ref b] s) (F0 m 18 ls []) := by
  obtain ⟨hx, hb, hr, hml, hown, hts0, hX, hbl, hlocks, hgv⟩ := C0
  have hts : ∀ w ∈ lw_all, w.before #[Value.ref b] s = true := fun w h => hts0 w (lw_all_tbl h)
  have hbA : ¬ (fun q : Nat => s.heap.size ≤ q) b := Nat.not_le.mpr hbl
  intro n
  induction n with
  | zero =>
    intro i v h1 h2
    exact absurd h2 (by omega)
  | succ n ih =>
    intro i v hi hin ev ls hl
    refine lv_iload_n hx hb dL_law_18 rfl (lv_at hl 3 rfl) ?_
    refine lv_aload_n hx hb dL_law_19 rfl (lv_at hl 0 rfl) ?_
    refine va_slen hx hb hX hbl hbA hS dL_law_20 ?_
    refine lv_bipush (v := 6) hx hb dL_law_21 (by decide) ?_
    refine lv_isub hx hb dL_law_23 ?_
    refine lv_icmp_gt (tgt := 227) hx hb dL_law_24 (by decide) (fun c1 => ?_) (fun c1 => ?_)
    · refine lv_iconst (v := 1) hx hb dL_law_227 (by decide) ?_
      refine W.widen (k := 600000) (n := 7290000) (Nat.le_of_ble_eq_true rfl) (Nat.le_of_ble_eq_true rfl) ?_
      exact lw_ret hx hb hr hlocks dL_law_228
    · have hgo : i + 6 ≤ L := law_go hL hi (by rw [← ev]; exact c1)
      have j0 : vp_in v L := by rw [ev]; exact vp_in_nI (by omega) (by omega)
      have j1 : vp_in (v + 1) L := law_ix (k := 1) hL ev (by omega)
      have j2 : vp_in (v + 2) L := law_ix (k := 2) hL ev (by omega)
      have j3 : vp_in (v + 3) L := law_ix (k := 3) hL ev (by omega)
      have j4 : vp_in (v + 4) L := law_ix (k := 4) hL ev (by omega)
      have K : W p l e room_1 s m #[Value.ref b] below meth c H [] 2 0 (lw_Z below #[Value.ref b] s) (F0 m 221 ls []) := by
        obtain ⟨v2, ev2⟩ : ∃ v2 : Int32, v2 = v + 6 := ⟨_, rfl⟩
        refine lv_iinc (v := v2) (lv' := [(3, .int v2), (0, .ref b), (1, .ref qx), (2, .ref qm)]) hx hb dL_law_221 hl (k := 3) rfl (by rw [ev2]; rfl) (by decide) rfl (fun ls hl => ?_)
        refine lv_goto (tgt := 18) hx hb dL_law_224 (by decide) ?_
        exact ih (i + 6) v2 hgo (by omega) (by rw [ev2, ev]; exact nI_add i 6) ls (lv_sub hl [1, 2, 3, 0] rfl)
      refine lv_aload_n hx hb dL_law_27 rfl (lv_at hl 0 rfl) ?_
      refine lv_iload_n hx hb dL_law_28 rfl (lv_at hl 3 rfl) ?_
      refine va_sld hx hb hX hbl hbA hS j0 dL_law_29 ?_
      refine lv_bipush (v := 15) hx hb dL_law_30 (by decide) ?_
      refine lv_iand hx hb dL_law_32 ?_
      refine lv_topi (fun w ew => ?_)
      by_cases w0 : w = 0
      · rw [w0]
        refine lv_tableIn (tgt := 60) (off := 27) hx hb dL_law_33 (by decide) (by decide) (by decide) (by decide) ?_
        refine lv_aload_n hx hb dL_law_60 rfl (lv_at hl 1 rfl) ?_
        refine lv_aload_n hx hb dL_law_61 rfl (lv_at hl 0 rfl) ?_
        refine lv_iload_n hx hb dL_law_62 rfl (lv_at hl 3 rfl) ?_
        refine lv_iconst (v := 1) hx hb dL_law_63 (by decide) ?_
        refine lv_iadd hx hb dL_law_64 ?_
        refine va_sld hx hb hX hbl hbA hS j1 dL_law_65 ?_
        refine lv_aload_n hx hb dL_law_66 rfl (lv_at hl 0 rfl) ?_
        refine lv_iload_n hx hb dL_law_67 rfl (lv_at hl 3 rfl) ?_
        refine lv_iconst (v := 2) hx hb dL_law_68 (by decide) ?_
        refine lv_iadd hx hb dL_law_69 ?_
        refine va_sld hx hb hX hbl hbA hS j2 dL_law_70 ?_
        refine lv_aload_n hx hb dL_law_71 rfl (lv_at hl 0 rfl) ?_
        refine lv_iload_n hx hb dL_law_72 rfl (lv_at hl 3 rfl) ?_
        refine lv_iconst (v := 3) hx hb dL_law_73 (by decide) ?_
        refine lv_iadd hx hb dL_law_74 ?_
        refine va_sld hx hb hX hbl hbA hS j3 dL_law_75 ?_
        refine lv_aload_n hx hb dL_law_76 rfl (lv_at hl 0 rfl) ?_
        refine lv_iload_n hx hb dL_law_77 rfl (lv_at hl 3 rfl) ?_
        refine lv_iconst (v := 4) hx hb dL_law_78 (by decide) ?_
        refine lv_iadd hx hb dL_law_79 ?_
        refine va_sld hx hb hX hbl hbA hS j4 dL_law_80 ?_
        refine vp_callSl (W.runV (As := [.int (xs (v + 1).toNatClampNeg), .int (xs (v + 2).toNatClampNeg), .int (xs (v + 3).toNatClampNeg), .int (xs (v + 4).toNatClampNeg)]) (rest := []) ⟨hx, hb, hml, hown, hts⟩ (met_X0_divide l qx (xs (v + 1).toNatClampNeg) (xs (v + 2).toNatClampNeg) (xs (v + 3).toNatClampNeg) (xs (v + 4).toNatClampNeg)) (cwV 4 hts (lw_V q15 q16 q17 q1 q18) rfl rfl rfl (by decide +kernel) ⟨Nat.le_of_ble_eq_true rfl, Nat.le_of_ble_eq_true rfl⟩) ⟨fun _ _ _ _ q => q, va_recv hK hP (ci := 0) (q0 := 0) rfl rfl, fun _ _ _ => ⟨rfl, trivial⟩⟩ rfl rfl hl.1 rfl (lv_room (Nat.le_of_ble_eq_true rfl)) dL_law_81 ⟨Nat.le_of_ble_eq_true rfl, Nat.le_of_ble_eq_true rfl⟩) (fun r1 h1 => ?_)
        refine lv_aload_n hx hb dL_law_84 rfl (lv_at hl 2 rfl) ?_
        refine lv_aload_n hx hb dL_law_85 rfl (lv_at hl 0 rfl) ?_
        refine lv_iload_n hx hb dL_law_86 rfl (lv_at hl 3 rfl) ?_
        refine lv_iconst (v := 1) hx hb dL_law_87 (by decide) ?_
        refine lv_iadd hx hb dL_law_88 ?_
        refine va_sld hx hb hX hbl hbA hS j1 dL_law_89 ?_
        refine lv_aload_n hx hb dL_law_90 rfl (lv_at hl 0 rfl) ?_
        refine lv_iload_n hx hb dL_law_91 rfl (lv_at hl 3 rfl) ?_
        refine lv_iconst (v := 2) hx hb dL_law_92 (by decide) ?_
        refine lv_iadd hx hb dL_law_93 ?_
        refine va_sld hx hb hX hbl hbA hS j2 dL_law_94 ?_
        refine lv_aload_n hx hb dL_law_95 rfl (lv_at hl 0 rfl) ?_
        refine lv_iload_n hx hb dL_law_96 rfl (lv_at hl 3 rfl) ?_
        refine lv_iconst (v := 3) hx hb dL_law_97 (by decide) ?_
        refine lv_iadd hx hb dL_law_98 ?_
        refine va_sld hx hb hX hbl hbA hS j3 dL_law_99 ?_
        refine lv_aload_n hx hb dL_law_100 rfl (lv_at hl 0 rfl) ?_
        refine lv_iload_n hx hb dL_law_101 rfl (lv_at hl 3 rfl) ?_
        refine lv_iconst (v := 4) hx hb dL_law_102 (by decide) ?_
        refine lv_iadd hx hb dL_law_103 ?_
        refine va_sld hx hb hX hbl hbA hS j4 dL_law_104 ?_
        refine vp_callSl (W.runV (As := [.int (xs (v + 1).toNatClampNeg), .int (xs (v + 2).toNatClampNeg), .int (xs (v + 3).toNatClampNeg), .int (xs (v + 4).toNatClampNeg)]) (rest := [.long r1]) ⟨hx, hb, hml, hown, hts⟩ (met_X1_divide l qm (xs (v + 1).toNatClampNeg) (xs (v + 2).toNatClampNeg) (xs (v + 3).toNatClampNeg) (xs (v + 4).toNatClampNeg)) (cwV 4 hts (lw_V q59 q60 q61 q2 q62) rfl rfl rfl (by decide +kernel) ⟨Nat.le_of_ble_eq_true rfl, Nat.le_of_ble_eq_true rfl⟩) ⟨fun _ _ _ _ q => q, va_recv hK hP (ci := 1) (q0 := 1) rfl rfl, fun _ _ _ => ⟨rfl, trivial⟩⟩ rfl rfl hl.1 rfl (lv_room (Nat.le_of_ble_eq_true rfl)) dL_law_105 ⟨Nat.le_of_ble_eq_true rfl, Nat.le_of_ble_eq_true rfl⟩) (fun r2 h2 => ?_)
        refine W.lcmp hx hb dL_law_108 ?_
        refine lv_if_eq (tgt := 221) hx hb dL_law_109 (by decide) (fun c2 => ?_) (fun c2 => ?_)
        · exact K
        · exact absurd ((lg_cmp_eq r1 r2).mpr (h1.trans h2.symm)) c2
      by_cases w1 : w = 1
      · rw [w1]
        refine lv_tableIn (tgt := 114) (off := 81) hx hb dL_law_33 (by decide) (by decide) (by decide) (by decide) ?_
        refine lv_aload_n hx hb dL_law_114 rfl (lv_at hl 1 rfl) ?_
        refine lv_aload_n hx hb dL_law_115 rfl (lv_at hl 0 rfl) ?_
        refine lv_iload_n hx hb dL_law_116 rfl (lv_at hl 3 rfl) ?_
        refine lv_iconst (v := 1) hx hb dL_law_117 (by decide) ?_
        refine lv_iadd hx hb dL_law_118 ?_
        refine va_sld hx hb hX hbl hbA hS j1 dL_law_119 ?_
        refine lv_aload_n hx hb dL_law_120 rfl (lv_at hl 0 rfl) ?_
        refine lv_iload_n hx hb dL_law_121 rfl (lv_at hl 3 rfl) ?_
        refine lv_iconst (v := 2) hx hb dL_law_122 (by decide) ?_
        refine lv_iadd hx hb dL_law_123 ?_
        refine va_sld hx hb hX hbl hbA hS j2 dL_law_124 ?_
        refine lv_aload_n hx hb dL_law_125 rfl (lv_at hl 0 rfl) ?_
        refine lv_iload_n hx hb dL_law_126 rfl (lv_at hl 3 rfl) ?_
        refine lv_iconst (v := 3) hx hb dL_law_127 (by decide) ?_
        refine lv_iadd hx hb dL_law_128 ?_
        refine va_sld hx hb hX hbl hbA hS j3 dL_law_129 ?_
        refine lv_aload_n hx hb dL_law_130 rfl (lv_at hl 0 rfl) ?_
        refine lv_iload_n hx hb dL_law_131 rfl (lv_at hl 3 rfl) ?_
        refine lv_iconst (v := 4) hx hb dL_law_132 (by decide) ?_
        refine lv_iadd hx hb dL_law_133 ?_
        refine va_sld hx hb hX hbl hbA hS j4 dL_law_134 ?_
        refine vp_callSl (W.runV (As := [.int (xs (v + 1).toNatClampNeg), .int (xs (v + 2).toNatClampNeg), .int (xs (v + 3).toNatClampNeg), .int (xs (v + 4).toNatClampNeg)]) (rest := []) ⟨hx, hb, hml, hown, hts⟩ (met_X0_remainder l qx (xs (v + 1).toNatClampNeg) (xs (v + 2).toNatClampNeg) (xs (v + 3).toNatClampNeg) (xs (v + 4).toNatClampNeg)) (cwV 4 hts (lw_V q40 q41 q42 q1 q43) rfl rfl rfl (by decide +kernel) ⟨Nat.le_of_ble_eq_true rfl, Nat.le_of_ble_eq_true rfl⟩) ⟨fun _ _ _ _ q => q, va_recv hK hP (ci := 0) (q0 := 0) rfl rfl, fun _ _ _ => ⟨rfl, trivial⟩⟩ rfl rfl hl.1 rfl (lv_room (Nat.le_of_ble_eq_true rfl)) dL_law_135 ⟨Nat.le_of_ble_eq_true rfl, Nat.le_of_ble_eq_true rfl⟩) (fun r1 h1 => ?_)
        refine lv_aload_n hx hb dL_law_138 rfl (lv_at hl 2 rfl) ?_
        refine lv_aload_n hx hb dL_law_139 rfl (lv_at hl 0 rfl) ?_
        refine lv_iload_n hx hb dL_law_140 rfl (lv_at hl 3 rfl) ?_
        refine lv_iconst (v := 1) hx hb dL_law_141 (by decide) ?_
        refine lv_iadd hx hb dL_law_142 ?_
        refine va_sld hx hb hX hbl hbA hS j1 dL_law_143 ?_
        refine lv_aload_n hx hb dL_law_144 rfl (lv_at hl 0 rfl) ?_
        refine lv_iload_n hx hb dL_law_145 rfl (lv_at hl 3 rfl) ?_
        refine lv_iconst (v := 2) hx hb dL_law_146 (by decide) ?_
        refine lv_iadd hx hb dL_law_147 ?_
        refine va_sld hx hb hX hbl hbA hS j2 dL_law_148 ?_
        refine lv_aload_n hx hb dL_law_149 rfl (lv_at hl 0 rfl) ?_
        refine lv_iload_n hx hb dL_law_150 rfl (lv_at hl 3 rfl) ?_
        refine lv_iconst (v := 3) hx hb dL_law_151 (by decide) ?_
        refine lv_iadd hx hb dL_law_152 ?_
        refine va_sld hx hb hX hbl hbA hS j3 dL_law_153 ?_
        refine lv_aload_n hx hb dL_law_154 rfl (lv_at hl 0 rfl) ?_
        refine lv_iload_n hx hb dL_law_155 rfl (lv_at hl 3 rfl) ?_
        refine lv_iconst (v := 4) hx hb dL_law_156 (by decide) ?_
        refine lv_iadd hx hb dL_law_157 ?_
        refine va_sld hx hb hX hbl hbA hS j4 dL_law_158 ?_
        refine vp_callSl (W.runV (As := [.int (xs (v + 1).toNatClampNeg), .int (xs (v + 2).toNatClampNeg), .int (xs (v + 3).toNatClampNeg), .int (xs (v + 4).toNatClampNeg)]) (rest := [.long r1]) ⟨hx, hb, hml, hown, hts⟩ (met_X1_remainder l qm (xs (v + 1).toNatClampNeg) (xs (v + 2).toNatClampNeg) (xs (v + 3).toNatClampNeg) (xs (v + 4).toNatClampNeg)) (cwV 4 hts (lw_V q74 q75 q76 q2 q77) rfl rfl rfl (by decide +kernel) ⟨Nat.le_of_ble_eq_true rfl, Nat.le_of_ble_eq_true rfl⟩) ⟨fun _ _ _ _ q => q, va_recv hK hP (ci := 1) (q0 := 1) rfl rfl, fun _ _ _ => ⟨rfl, trivial⟩⟩ rfl rfl hl.1 rfl (lv_room (Nat.le_of_ble_eq_true rfl)) dL_law_159 ⟨Nat.le_of_ble_eq_true rfl, Nat.le_of_ble_eq_true rfl⟩) (fun r2 h2 => ?_)
        refine W.lcmp hx hb dL_law_162 ?_
        refine lv_if_eq (tgt := 221) hx hb dL_law_163 (by decide) (fun c2 => ?_) (fun c2 => ?_)
        · exact K
        · exact absurd ((lg_cmp_eq r1 r2).mpr (h1.trans h2.symm)) c2
      by_cases w2 : w = 2
      · rw [w2]
        refine lv_tableIn (tgt := 168) (off := 135) hx hb dL_law_33 (by decide) (by decide) (by decide) (by decide) ?_
        refine lv_aload_n hx hb dL_law_168 rfl (lv_at hl 1 rfl) ?_
        refine lv_aload_n hx hb dL_law_169 rfl (lv_at hl 0 rfl) ?_
        refine lv_iload_n hx hb dL_law_170 rfl (lv_at hl 3 rfl) ?_
        refine lv_iconst (v := 1) hx hb dL_law_171 (by decide) ?_
        refine lv_iadd hx hb dL_law_172 ?_
        refine va_sld hx hb hX hbl hbA hS j1 dL_law_173 ?_
        refine lv_aload_n hx hb dL_law_174 rfl (lv_at hl 0 rfl) ?_
        refine lv_iload_n hx hb dL_law_175 rfl (lv_at hl 3 rfl) ?_
        refine lv_iconst (v := 2) hx hb dL_law_176 (by decide) ?_
        refine lv_iadd hx hb dL_law_177 ?_
        refine va_sld hx hb hX hbl hbA hS j2 dL_law_178 ?_
        refine lv_aload_n hx hb dL_law_179 rfl (lv_at hl 0 rfl) ?_
        refine lv_iload_n hx hb dL_law_180 rfl (lv_at hl 3 rfl) ?_
        refine lv_iconst (v := 3) hx hb dL_law_181 (by decide) ?_
        refine lv_iadd hx hb dL_law_182 ?_
        refine va_sld hx hb hX hbl hbA hS j3 dL_law_183 ?_
        refine lv_aload_n hx hb dL_law_184 rfl (lv_at hl 0 rfl) ?_
        refine lv_iload_n hx hb dL_law_185 rfl (lv_at hl 3 rfl) ?_
        refine lv_iconst (v := 4) hx hb dL_law_186 (by decide) ?_
        refine lv_iadd hx hb dL_law_187 ?_
        refine va_sld hx hb hX hbl hbA hS j4 dL_law_188 ?_
        refine vp_callSi (W.runV (As := [.int (xs (v + 1).toNatClampNeg), .int (xs (v + 2).toNatClampNeg), .int (xs (v + 3).toNatClampNeg), .int (xs (v + 4).toNatClampNeg)]) (rest := []) ⟨hx, hb, hml, hown, hts⟩ (met_X0_compare l qx (xs (v + 1).toNatClampNeg) (xs (v + 2).toNatClampNeg) (xs (v + 3).toNatClampNeg) (xs (v + 4).toNatClampNeg)) (cwV 4 hts (lw_V q47 q48 q49 q1 q50) rfl rfl rfl (by decide +kernel) ⟨Nat.le_of_ble_eq_true rfl, Nat.le_of_ble_eq_true rfl⟩) ⟨fun _ _ _ _ q => q, va_recv hK hP (ci := 0) (q0 := 0) rfl rfl, fun _ _ _ => ⟨rfl, trivial⟩⟩ rfl rfl hl.1 rfl (lv_room (Nat.le_of_ble_eq_true rfl)) dL_law_189 ⟨Nat.le_of_ble_eq_true rfl, Nat.le_of_ble_eq_true rfl⟩) (fun r1 h1 => ?_)
        refine lv_aload_n hx hb dL_law_192 rfl (lv_at hl 2 rfl) ?_
        refine lv_aload_n hx hb dL_law_193 rfl (lv_at hl 0 rfl) ?_
        refine lv_iload_n hx hb dL_law_194 rfl (lv_at hl 3 rfl) ?_
        refine lv_iconst (v := 1) hx hb dL_law_195 (by decide) ?_
        refine lv_iadd hx hb dL_law_196 ?_
        refine va_sld hx hb hX hbl hbA hS j1 dL_law_197 ?_
        refine lv_aload_n hx hb dL_law_198 rfl (lv_at hl 0 rfl) ?_
        refine lv_iload_n hx hb dL_law_199 rfl (lv_at hl 3 rfl) ?_
        refine lv_iconst (v := 2) hx hb dL_law_200 (by decide) ?_
        refine lv_iadd hx hb dL_law_201 ?_
        refine va_sld hx hb hX hbl hbA hS j2 dL_law_202 ?_
        refine lv_aload_n hx hb dL_law_203 rfl (lv_at hl 0 rfl) ?_
        refine lv_iload_n hx hb dL_law_204 rfl (lv_at hl 3 rfl) ?_
        refine lv_iconst (v := 3) hx hb dL_law_205 (by decide) ?_
        refine lv_iadd hx hb dL_law_206 ?_
        refine va_sld hx hb hX hbl hbA hS j3 dL_law_207 ?_
        refine lv_aload_n hx hb dL_law_208 rfl (lv_at hl 0 rfl) ?_
        refine lv_iload_n hx hb dL_law_209 rfl (lv_at hl 3 rfl) ?_
        refine lv_iconst (v := 4) hx hb dL_law_210 (by decide) ?_
        refine lv_iadd hx hb dL_law_211 ?_
        refine va_sld hx hb hX hbl hbA hS j4 dL_law_212 ?_
        refine vp_callSi (W.runV (As := [.int (xs (v + 1).toNatClampNeg), .int (xs (v + 2).toNatClampNeg), .int (xs (v + 3).toNatClampNeg), .int (xs (v + 4).toNatClampNeg)]) (rest := [.int r1]) ⟨hx, hb, hml, hown, hts⟩ (met_X1_compare l qm (xs (v + 1).toNatClampNeg) (xs (v + 2).toNatClampNeg) (xs (v + 3).toNatClampNeg) (xs (v + 4).toNatClampNeg)) (cwV 4 hts (lw_V q78 q79 q80 q2 q81) rfl rfl rfl (by decide +kernel) ⟨Nat.le_of_ble_eq_true rfl, Nat.le_of_ble_eq_true rfl⟩) ⟨fun _ _ _ _ q => q, va_recv hK hP (ci := 1) (q0 := 1) rfl rfl, fun _ _ _ => ⟨rfl, trivial⟩⟩ rfl rfl hl.1 rfl (lv_room (Nat.le_of_ble_eq_true rfl)) dL_law_213 ⟨Nat.le_of_ble_eq_true rfl, Nat.le_of_ble_eq_true rfl⟩) (fun r2 h2 => ?_)
        refine lv_icmp_eq (tgt := 221) hx hb dL_law_216 (by decide) (fun c2 => ?_) (fun c2 => ?_)
        · exact K
        · exact absurd (h1.trans h2.symm) c2
      refine lv_tableOut (tgt := 221) hx hb dL_law_33 (law_out w0 w1 w2) (by decide) ?_
      exact K
set_option maxHeartbeats 4000000 in
set_option maxRecDepth 100000 in
/-- THE LAW, from its entry -/
theorem whole_start {p : Program} {e : Env} {s : State} {m : MethodId} {below : List Frame} {meth : Method} {c : Code} (l : Launch) (hflags : l.flags = flags0) {b L : Nat} {xs : Nat → Int32} (hL : L ≤ 384) (C0 : lw_At p s m meth c b L xs) : W p l e room_1 s m #[Value.ref b] below meth c s.heap [] 0 0 (lw_Z below #[Value.ref b] s) (entryFrame m ([Value.ref b] : List Value).toArray 4) := by
  obtain ⟨hx, hb, hr, hml, hown, hts0, hX, hbl, hlocks, hgv⟩ := id C0
  have hts : ∀ w ∈ lw_all, w.before #[Value.ref b] s = true := fun w h => hts0 w (lw_all_tbl h)
  have hA : ∀ q : Nat, s.heap.size ≤ q → (fun q : Nat => s.heap.size ≤ q) q := fun _ h => h
  obtain ⟨k0, i0, hKn0⟩ := u_known (C := RX0) (T := TX_none) (N := 0) (n := 0) hts in_X0 (hts _ q7)
  obtain ⟨k1, i1, hKn1⟩ := u_known (C := RX1) (T := TX_none) (N := 0) (n := 0) hts in_X1 (hts _ q53)
  obtain ⟨dC, dI, hKc⟩ : ∃ (dC : Nat → ClassId) (dI : Nat → Nat → Nat), ∀ (k : Nat) (q : vw_C), ud_cl[k]? = some q → u_Kn s q.1 q.2.1 q.2.2 (dC k) (dI k) := by
    refine ⟨fun k => if k = 0 then k0 else k1, fun k => if k = 0 then i0 else i1, ?_⟩
    intro k q hq
    match k, hq with
    | 0, hq => cases hq; exact hKn0
    | 1, hq => cases hq; exact hKn1
    | k + 2, hq => simp [ud_cl] at hq
  have hS : va_S (fun q : Nat => s.heap.size ≤ q) s.heap s.heap [] := va_S.rf
  have hK : va_K (dC, dI) ud_cl [] s := ⟨hKc, fun k q h => by simp at h⟩
  have hP : va_P (dC, dI) ud_cl [] s.heap := fun k q h => by simp at h
  have hD : va_D (fun q : Nat => s.heap.size ≤ q) [] := ⟨fun i j p q h => by simp at h, fun k q h => by simp at h⟩
  have hl := lv_entry ([.ref b]) (n := 4) (Nat.le_of_ble_eq_true rfl)
  rw [lg_entry_eq]
  generalize (lg_sl ([.ref b]) ++ List.replicate (4 - (lg_sl ([.ref b])).length) Slot.unset).toArray = ls at hl ⊢
  have hl : lv_has ls 4 [(0, .ref b)] := hl
  refine va_new (ci := 0) (fs := []) (C := RX0) (T := TX_none) (N := 0) hx hb hts in_X0 tyX_none tyX_ok hown (hts _ q6) (hts _ q7) (hts _ q1) hK hP hD hS hA rfl (fun j hj => absurd hj (Nat.not_lt_zero j)) (Nat.le_of_ble_eq_true rfl) (Nat.le_of_ble_eq_true rfl) dL_law_0 (fun qx H hP hD hS => ?_)
  have hP : va_P (dC, dI) ud_cl [(qx, .inr (0, []))] H := hP
  have hD : va_D (fun q : Nat => s.heap.size ≤ q) [(qx, .inr (0, []))] := hD
  refine W.widen (k := 1) (n := 0) (Nat.le_refl _) (Nat.le_refl _) ?_
  refine lv_dup hx hb dL_law_3 rfl ?_
  refine va_csv (W.runI (As := []) (rest := [.ref qx]) ⟨hx, hb, hml, hown, hts⟩ (met_X0_init l qx) (cwI 0 hts (lw_meth q10) rfl rfl rfl (hts _ q1) (hts _ q8) (hts _ q9) rfl (by decide +kernel) ⟨Nat.le_of_ble_eq_true rfl, Nat.le_of_ble_eq_true rfl⟩) ⟨fun _ _ _ _ q => q, fun _ _ _ => ⟨rfl, trivial⟩⟩ rfl rfl hl.1 rfl (lv_room (Nat.le_of_ble_eq_true rfl)) dL_law_4 ⟨Nat.le_of_ble_eq_true rfl, Nat.le_of_ble_eq_true rfl⟩) (fun _ => ?_)
  refine lv_astore_n (lv' := [(1, .ref qx), (0, .ref b)]) hx hb dL_law_7 rfl hl (by decide) rfl (fun ls hl => ?_)
  refine va_new (ci := 1) (fs := []) (C := RX1) (T := TX_none) (N := 0) hx hb hts in_X1 tyX_none tyX_ok hown (hts _ q52) (hts _ q53) (hts _ q2) hK hP hD hS hA rfl (fun j hj => absurd hj (Nat.not_lt_zero j)) (Nat.le_of_ble_eq_true rfl) (Nat.le_of_ble_eq_true rfl) dL_law_8 (fun qm H hP hD hS => ?_)
  have hP : va_P (dC, dI) ud_cl [(qx, .inr (0, [])), (qm, .inr (1, []))] H := hP
  have hD : va_D (fun q : Nat => s.heap.size ≤ q) [(qx, .inr (0, [])), (qm, .inr (1, []))] := hD
  refine W.widen (k := 2) (n := 0) (Nat.le_refl _) (Nat.le_refl _) ?_
  refine lv_dup hx hb dL_law_11 rfl ?_
  refine va_csv (W.runI (As := []) (rest := [.ref qm]) ⟨hx, hb, hml, hown, hts⟩ (met_X1_init l qm) (cwI 0 hts (lw_meth q56) rfl rfl rfl (hts _ q2) (hts _ q54) (hts _ q55) rfl (by decide +kernel) ⟨Nat.le_of_ble_eq_true rfl, Nat.le_of_ble_eq_true rfl⟩) ⟨fun _ _ _ _ q => q, fun _ _ _ => ⟨rfl, trivial⟩⟩ rfl rfl hl.1 rfl (lv_room (Nat.le_of_ble_eq_true rfl)) dL_law_12 ⟨Nat.le_of_ble_eq_true rfl, Nat.le_of_ble_eq_true rfl⟩) (fun _ => ?_)
  refine lv_astore_n (lv' := [(2, .ref qm), (1, .ref qx), (0, .ref b)]) hx hb dL_law_15 rfl hl (by decide) rfl (fun ls hl => ?_)
  refine lv_iconst (v := 0) hx hb dL_law_16 (by decide) ?_
  refine lv_istore_n (lv' := [(3, .int 0), (2, .ref qm), (1, .ref qx), (0, .ref b)]) hx hb dL_law_17 rfl hl (by decide) rfl (fun ls hl => ?_)
  exact law_loop hL C0 qx qm H hK hP hS (L + 1) 0 0 (Nat.zero_le L) (by omega) nI_0.symm ls (lv_sub hl [3, 2, 1, 0] rfl)
end
section
set_option maxHeartbeats 4000000 in
theorem lw_walk (l : Launch) (hflags : l.flags = flags0) (b : Addr) (xs : List Int32) : MetFree l x (headSpec (Jvm.Cond.code x code maxLocals ret :: tables_1) room_1) (lw_P b xs) (fun _ _ _ _ _ => True) lw_Q := by
  refine MetFree.of_bodyS (code := code) (maxLocals := maxLocals) (ret := ret) (by decide) ?_ ?_
  · intro args s m h hn
    obtain ⟨meth, c, h1, h2, h3, h4, h5, h6, -, -⟩ := Cond.code_spec hn (atoms_spec (ws := Jvm.Cond.code x code maxLocals ret :: tables_1) h _ List.mem_cons_self)
    exact ⟨meth, c, h1, h2, h3, h4, h5, h6⟩
  · intro p e s m args below meth c s₁ B hml0 hP _
    obtain ⟨rfl, hx, hbd, hgv⟩ := hP
    obtain ⟨scr, harrAt, hlist, hof, hsmall⟩ := hx
    obtain ⟨hcb, hkn, -, -⟩ := State.arrayAt?_spec harrAt
    have hown : s.vm.findClass R_law = some m.cls := findClass_of_methodNamed B.named
    have hts0 : ∀ c ∈ (Jvm.Cond.code x code maxLocals ret :: tables_1), c.before #[Value.ref b] s = true := atoms_spec (ws := Jvm.Cond.code x code maxLocals ret :: tables_1) B.pre
    have hts : ∀ w ∈ lw_tbl, w.before #[Value.ref b] s = true := k2_hts_sels lw_privs (fun w hw => hts0 w (List.mem_cons_of_mem _ hw)) lw_privs_ok
    have hml : c.maxLocals = 4 := B.maxLocals_eq (hts0 _ List.mem_cons_self)
    have X₀ : Stand p l e room_1 s m #[Value.ref b] below meth c s₁ [] 0 0 := Stand.of_body B
    have hh0 : s₁.heap = s.heap := by rw [B.state]; rfl
    have hsz : scr.slots.size = xs.length := by rw [← Array.length_toList, hlist, List.length_map]
    have hval : ∀ j : Nat, j < xs.length → scr.slots[j]? = some (.int (xs.getD j 0)) := fun j hj => by
      rw [← Array.getElem?_toList, hlist]
      simp [hj]
    have hbl : b < s.heap.size := (Array.getElem?_eq_some_iff.mp hcb).1
    have hX : va_X b xs.length (fun j => xs.getD j 0) s s.heap := ⟨scr, hcb, hof, hkn, hsz, hval⟩
    have K : W p l e room_1 s m #[Value.ref b] below meth c s₁.heap [] 0 0 (lw_Z below #[Value.ref b] s) (entryFrame m ([Value.ref b] : List Value).toArray 4) := by
      rw [hh0]
      exact whole_start l hflags hbd ⟨B.exec, B.bytes, B.returns, hml, hown, hts, hX, hbl, B.notSynchronized, hgv⟩
    obtain ⟨t, a1, o, b1, b2, b3⟩ := K s₁ rfl X₀
    exact ⟨t, o, a1, b1, b2, b3⟩
theorem lw_pre_spec {args : Array Value} {s : State} (h : (Jvm.Cond.and given_1 narrow_1).before args s = true) (hr : rest_1_c.before args s = true) : ∃ (b : Addr) (xs : List Int32), lw_P b xs args s := by
  have hs := flat_of_before _ h
  have hq := flat_of_before _ hr
  have hc : (Cond.count 1).before args s = true := hs _ (by decide +kernel)
  have harr : (Cond.arrayOf (.arg 0) .int).before args s = true := hs _ (by decide +kernel)
  have hle : (Cond.le (.length (.arg 0)) (.int 384)).before args s = true := hs _ (by decide +kernel)
  have hlen : (Cond.isInt (.length (.arg 0))).before args s = true := hq _ (by decide +kernel)
  have hall : (Cond.all (.arg 0) (.isInt (.elem (.arg 0) (.index 0)))).before args s = true := hq _ (by decide +kernel)
  obtain ⟨b, xs, hb, hx⟩ := State.ints_of_pre rfl harr hlen hall
  have hsm : xs.length < 2 ^ 31 := hx.choose_spec.2.2.2
  have hev : (Term.length (.arg 0)).eval args s none [] s = some (.int xs.length.toInt32) := hx.length_eval hb
  have hv := Cond.le_ints hev (show (Term.int 384).eval args s none [] s = some (.int 384) from rfl)
  have hd : xs.length.toInt32 ≤ 384 := by
    simpa [Cond.before, Cond.holds, hv] using hle
  have hN : xs.length ≤ 384 := (Int32.ofNat_le_ofNat hsm (by decide)).mp (show Int32.ofNat xs.length ≤ Int32.ofNat 384 from hd)
  exact ⟨b, xs, Cond.one_arg hc (show args[0]? = some (.ref b) from hb), hx, hN, h⟩
theorem lw_comes (l : Launch) (hflags : l.flags = flags0) : Comes l x (Jvm.Cond.code x code maxLocals ret :: tables_1) room_1 (fun tb e args s => Calls_1 tb e args s ∧ rest_1 tb e args s ∧ Pre_1 tb e args s)
    (fun _ _ args s o t => lw_Q args s o t) := by
  intro p e ha hc hk s m args below hf hfit hheap happ hpre
  obtain ⟨b, xs, hP⟩ := lw_pre_spec hpre.2.2 hpre.2.1
  obtain ⟨k, o, h1, h2, h3, hQ⟩ := lw_walk l hflags b xs p e ha hc hk s m args below hf ((Spec.applies_iff_loose hf).mp happ).1 hP trivial
  exact ⟨k, o, h1, h2, h3, hQ⟩
theorem lw_frame {s t : State} {o : Outcome} {args : Array Value} (h : Framed s o t [] 600000 7290000) :
    Framed s o t (fieldLocs frame_1_writes args s ++ arrayLocs frame_1_arrays args s ++ staticLocs frame_1_statics s) 600000 7290000 := h
theorem lw_limb (L : Cond) (hL : ∀ (args : Array Value) (s t : State), L.after args s (.returned (some (.int 1))) t = true) :
    ArmFor flags0 classFile x code maxLocals ret World_1 tables_1 room_1 Calls_1 rest_1 Pre_1
      (fun tb e a s o t => postC L tb e a s o t ∧ Framed s o t (fieldLocs frame_1_writes a s ++ arrayLocs frame_1_arrays a s ++ staticLocs frame_1_statics s) 600000 7290000) := by
  intro l hflags _ _ p e ha hc hk s m args below hf hfit hheap happ hpre
  obtain ⟨k, o, h1, h2, h3, rfl, hF⟩ := lw_comes l hflags p e ha hc hk s m args below hf hfit hheap happ hpre
  exact ⟨k, _, h1, h2, h3, hL args s _, lw_frame hF⟩
theorem i_vc : Claimed_1_1 ∧ Claimed_1_2 := ⟨lw_limb limb_1_1 (fun args s t => by simp [limb_1_1, Cond.after, Cond.holds, Cond.value]), lw_limb limb_1_2 (fun args s t => Cond.after_iff.mpr (by
  first | (rw [show limb_1_2 = Cond.eq .result (.int 1) from rfl, Cond.eq_ints (x := 1) (y := 1) rfl rfl]; simp; done) | (simp [limb_1_2, Cond.value, Term.eval]; done)))⟩
end
