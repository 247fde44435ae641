section
-- ===== PART A: goes FIRST, ahead of the names: the tables' words, and 'selects' of the private methods out of them =====
/-- a private method of a class that the tables say can be made, by its rows of tables_1 -/
def lw_okq (q : MethodName × Nat) : Prop := (q.1.cls ≠ "java/lang/invoke/MethodHandle" ∧ q.1.cls ≠ "java/lang/invoke/VarHandle") ∧ Cond.instantiable q.1.cls q.2 ∈ tables_1 ∧ Cond.privateMethod q.1 ∈ tables_1 ∧ Cond.instanceMethod q.1 ∈ tables_1
set_option maxRecDepth 100000
theorem lw_p0 : lw_okq (⟨"BarValueDesk", "widest", "()I"⟩, 1) := ⟨⟨by decide +kernel, by decide +kernel⟩, List.mem_of_getElem? (i := 4) rfl, List.mem_of_getElem? (i := 47) rfl, List.mem_of_getElem? (i := 48) rfl⟩
theorem lw_p1 : lw_okq (⟨"BarValueDesk", "sum", "()I"⟩, 1) := ⟨⟨by decide +kernel, by decide +kernel⟩, List.mem_of_getElem? (i := 4) rfl, List.mem_of_getElem? (i := 52) rfl, List.mem_of_getElem? (i := 53) rfl⟩
theorem lw_p2 : lw_okq (⟨"BarValueDesk", "narrow", "()Z"⟩, 1) := ⟨⟨by decide +kernel, by decide +kernel⟩, List.mem_of_getElem? (i := 4) rfl, List.mem_of_getElem? (i := 66) rfl, List.mem_of_getElem? (i := 67) rfl⟩
def lw_privs_1 : List (MethodName × Nat) := [(⟨"BarValueDesk", "widest", "()I"⟩, 1), (⟨"BarValueDesk", "sum", "()I"⟩, 1), (⟨"BarValueDesk", "narrow", "()Z"⟩, 1)]
theorem lw_r1 : ∀ q ∈ lw_privs_1, lw_okq q := List.forall_mem_cons.mpr ⟨lw_p0, List.forall_mem_cons.mpr ⟨lw_p1, List.forall_mem_cons.mpr ⟨lw_p2, fun _ h => absurd h List.not_mem_nil⟩⟩⟩
def lw_privs : List (MethodName × Nat) := lw_privs_1
def lw_tbl : List Cond := k2_sels lw_privs ++ tables_1
theorem lw_privs_ok : ∀ q ∈ lw_privs, lw_okq q := lw_r1
-- ===== ONE list of words for every method: the tables' words that hold all through a run =====
def lw_all : List Cond := lw_tbl.filter goodWord
/-- a word of the tables by its place: claim/WORDS.tsv -/
theorem lw_w {w : Cond} (i : Nat) (h : lw_tbl[i]? = some w) (g : goodWord w = true) : w ∈ lw_all := List.mem_filter.mpr ⟨List.mem_of_getElem? h, g⟩
theorem lw_all_tbl {w : Cond} (h : w ∈ lw_all) : w ∈ lw_tbl := (List.mem_filter.mp h).1
theorem lw_self : GoodIn lw_all lw_all := fun w h => ⟨h, good_of_word (List.mem_filter.mp h).2⟩
/-- a class's field words, by their places -/
theorem lw_in (ws : List Cond) (ps : List Nat) (hp : ws = ps.filterMap (fun i => lw_tbl[i]?)) (hg : ws.all goodWord = true) : ∀ w ∈ ws, w ∈ lw_all := by
  intro w h
  have h1 := List.all_eq_true.mp hg w h
  rw [hp] at h
  obtain ⟨i, -, hi⟩ := List.mem_filterMap.mp h
  exact lw_w i hi h1
/-- the words of a contract for the method y with code b, L locals, answer r -/
abbrev ws_ (y : MethodName) (b : ByteArray) (L : Nat) (r : Option FieldType) : List Cond := Cond.code y b L r :: lw_all
theorem lw_meth {y : MethodName} {b : ByteArray} {L : Nat} {r : Option FieldType} (h : Cond.code y b L r ∈ lw_all) : GoodIn lw_all (ws_ y b L r) := by
  intro w hw
  rcases List.mem_cons.mp hw with e | e
  · rw [e]
    exact lw_self _ h
  · exact lw_self _ e
theorem lw_app {a c : List Cond} (ha : ∀ w ∈ a, w ∈ lw_all) (hc : GoodIn lw_all c) : GoodIn lw_all (a ++ c) := by
  intro w hw
  rcases List.mem_append.mp hw with e | e
  · exact lw_self w (ha w e)
  · exact hc w e
/-- what a call through an object asks: cwV n hts (lw_V ..) -/
theorem lw_V {own : String} {idx : Nat} {C : String} {y : MethodName} {b : ByteArray} {L : Nat} {r : Option FieldType} (h1 : Cond.methodLink own idx y ∈ lw_all) (h2 : Cond.instanceMethod y ∈ lw_all) (h3 : Cond.selects C y y ∈ lw_all) (h4 : Cond.initialized C ∈ lw_all) (h5 : Cond.code y b L r ∈ lw_all) : GoodIn lw_all (wsV own idx C y (ws_ y b L r)) := by
  refine lw_app ?_ (lw_meth h5)
  intro w hw
  simp only [List.mem_cons, List.not_mem_nil, or_false] at hw
  rcases hw with e | e | e | e
  · rw [e]; exact h1
  · rw [e]; exact h2
  · rw [e]; exact h3
  · rw [e]; exact h4
/-- what a static call asks: va_cwS n hts (lw_S ..) -/
theorem lw_S {own : String} {idx : Nat} {y : MethodName} {b : ByteArray} {L : Nat} {r : Option FieldType} (h1 : Cond.methodLink own idx y ∈ lw_all) (h2 : Cond.static y ∈ lw_all) (h3 : Cond.initialized y.cls ∈ lw_all) (h4 : Cond.code y b L r ∈ lw_all) : GoodIn lw_all (va_wsS own idx y (ws_ y b L r)) := by
  refine lw_app ?_ (lw_meth h4)
  intro w hw
  simp only [List.mem_cons, List.not_mem_nil, or_false] at hw
  rcases hw with e | e | e
  · rw [e]; exact h1
  · rw [e]; exact h2
  · rw [e]; exact h3
/-- the words of a contract for a method WITH HANDLERS (hh: its table) -/
abbrev wsW_ (y : MethodName) (b : ByteArray) (L : Nat) (r : Option FieldType) (hh : List (Nat × Nat × Nat × Nat)) : List Cond := Cond.codeWith y b L r hh :: lw_all
theorem lw_methW {y : MethodName} {b : ByteArray} {L : Nat} {r : Option FieldType} {hh : List (Nat × Nat × Nat × Nat)} (h : Cond.codeWith y b L r hh ∈ lw_all) : GoodIn lw_all (wsW_ y b L r hh) := by
  intro w hw
  rcases List.mem_cons.mp hw with e | e
  · rw [e]
    exact lw_self _ h
  · exact lw_self _ e
/-- any list of words by their places (lw_in), good -/
theorem lw_good {ws : List Cond} (h : ∀ w ∈ ws, w ∈ lw_all) : GoodIn lw_all ws := fun w hw => lw_self w (h w hw)
/-- what a call of a method with handlers asks: vx_cwVW n hts (lw_VW ..), vx_cwSW n hts (lw_SW ..) -/
theorem lw_VW {own : String} {idx : Nat} {C : String} {y : MethodName} {b : ByteArray} {L : Nat} {r : Option FieldType} {hh : List (Nat × Nat × Nat × Nat)} (h1 : Cond.methodLink own idx y ∈ lw_all) (h2 : Cond.instanceMethod y ∈ lw_all) (h3 : Cond.selects C y y ∈ lw_all) (h4 : Cond.initialized C ∈ lw_all) (h5 : Cond.codeWith y b L r hh ∈ lw_all) : GoodIn lw_all (wsV own idx C y (wsW_ y b L r hh)) := by
  refine lw_app ?_ (lw_methW h5)
  intro w hw
  simp only [List.mem_cons, List.not_mem_nil, or_false] at hw
  rcases hw with e | e | e | e
  · rw [e]; exact h1
  · rw [e]; exact h2
  · rw [e]; exact h3
  · rw [e]; exact h4
theorem lw_SW {own : String} {idx : Nat} {y : MethodName} {b : ByteArray} {L : Nat} {r : Option FieldType} {hh : List (Nat × Nat × Nat × Nat)} (h1 : Cond.methodLink own idx y ∈ lw_all) (h2 : Cond.static y ∈ lw_all) (h3 : Cond.initialized y.cls ∈ lw_all) (h4 : Cond.codeWith y b L r hh ∈ lw_all) : GoodIn lw_all (va_wsS own idx y (wsW_ y b L r hh)) := by
  refine lw_app ?_ (lw_methW h4)
  intro w hw
  simp only [List.mem_cons, List.not_mem_nil, or_false] at hw
  rcases hw with e | e | e
  · rw [e]; exact h1
  · rw [e]; exact h2
  · rw [e]; exact h3
/-- a word by its place in its run of the tables -/
theorem lw_at {r : List Cond} (hr : ∀ w ∈ r, w ∈ lw_tbl) {w : Cond} (i : Nat) (h : r[i]? = some w) : w ∈ lw_tbl := hr w (List.mem_of_getElem? h)
theorem lw_g {w : Cond} (h : w ∈ lw_tbl) (g : goodWord w = true) : w ∈ lw_all := List.mem_filter.mpr ⟨h, g⟩
theorem lw_ms : ∀ w ∈ k2_sels lw_privs, w ∈ lw_tbl := fun w h => show w ∈ k2_sels lw_privs ++ tables_1 from List.mem_append_left _ h
theorem lw_m0 : ∀ w ∈ tables_1, w ∈ lw_tbl := fun w h => show w ∈ k2_sels lw_privs ++ tables_1 from List.mem_append_right (k2_sels lw_privs) h
theorem qs0 : (Cond.selects "BarValueDesk" ⟨"BarValueDesk", "widest", "()I"⟩ ⟨"BarValueDesk", "widest", "()I"⟩) ∈ lw_all := lw_g (lw_at lw_ms 0 rfl) rfl
theorem qs1 : (Cond.selects "BarValueDesk" ⟨"BarValueDesk", "sum", "()I"⟩ ⟨"BarValueDesk", "sum", "()I"⟩) ∈ lw_all := lw_g (lw_at lw_ms 1 rfl) rfl
theorem qs2 : (Cond.selects "BarValueDesk" ⟨"BarValueDesk", "narrow", "()Z"⟩ ⟨"BarValueDesk", "narrow", "()Z"⟩) ∈ lw_all := lw_g (lw_at lw_ms 2 rfl) rfl
/-! names: by program out of the claim's own tables -/
theorem q18 : (Jvm.Cond.arrayClass Jvm.ClassFile.FieldType.int) ∈ lw_all := lw_g (lw_at lw_m0 15 rfl) rfl
def RJ0 : String := "java/lang/Object"
abbrev cJ0_init : ByteArray := object_method_1_code
def yJ0_init : MethodName := ⟨RJ0, "<init>", "()V"⟩
theorem dJ0_init_0 : decode cJ0_init 0 = .ok (.return_, 1) := by decide +kernel
theorem q12 : (Jvm.Cond.instanceMethod ({ cls := "java/lang/Object", name := "<init>", desc := "()V" } : Jvm.MethodName)) ∈ lw_all := lw_g (lw_at lw_m0 9 rfl) rfl
theorem q13 : (Jvm.Cond.code ({ cls := "java/lang/Object", name := "<init>", desc := "()V" } : Jvm.MethodName) object_method_1_code (1 : Nat) (Option.none : Option Jvm.ClassFile.FieldType)) ∈ lw_all := lw_g (lw_at lw_m0 10 rfl) rfl
def RX2 : String := "RSSUtils"
abbrev cX2_getRSSvalue : ByteArray := prog_3_method_1_code
def yX2_getRSSvalue : MethodName := ⟨RX2, "getRSSvalue", "([IIZ)I"⟩
abbrev cX2_combins : ByteArray := prog_3_method_2_code
def yX2_combins : MethodName := ⟨RX2, "combins", "(II)I"⟩
theorem q5 : (Jvm.Cond.initialized "RSSUtils") ∈ lw_all := lw_g (lw_at lw_m0 2 rfl) rfl
theorem q59 : (Jvm.Cond.static ({ cls := "RSSUtils", name := "getRSSvalue", desc := "([IIZ)I" } : Jvm.MethodName)) ∈ lw_all := lw_g (lw_at lw_m0 56 rfl) rfl
theorem q60 : (Jvm.Cond.code ({ cls := "RSSUtils", name := "getRSSvalue", desc := "([IIZ)I" } : Jvm.MethodName) prog_3_method_1_code (12 : Nat) (Option.some Jvm.ClassFile.FieldType.int)) ∈ lw_all := lw_g (lw_at lw_m0 57 rfl) rfl
theorem q61 : (Jvm.Cond.methodLink "RSSUtils" (1 : Nat) ({ cls := "RSSUtils", name := "combins", desc := "(II)I" } : Jvm.MethodName)) ∈ lw_all := lw_g (lw_at lw_m0 58 rfl) rfl
theorem q62 : (Jvm.Cond.static ({ cls := "RSSUtils", name := "combins", desc := "(II)I" } : Jvm.MethodName)) ∈ lw_all := lw_g (lw_at lw_m0 59 rfl) rfl
theorem q63 : (Jvm.Cond.code ({ cls := "RSSUtils", name := "combins", desc := "(II)I" } : Jvm.MethodName) prog_3_method_2_code (7 : Nat) (Option.some Jvm.ClassFile.FieldType.int)) ∈ lw_all := lw_g (lw_at lw_m0 60 rfl) rfl
def RX1 : String := "BarValueDesk"
def TX1 : u_T := fun k => match k with
  | _ => ("BarValueDesk", "widths", "[I", true)
def tyX1 : Nat → FieldType := fun k => match k with
  | _ => .array .int
abbrev wsX10 : List Cond := u_ws RX1 TX1 1
theorem nmX1 : ∀ a, a < 1 → ∀ b, b < 1 → a ≠ b → (TX1 a).2.1 ≠ (TX1 b).2.1 := by decide +kernel
theorem tyX1_ok : ∀ k, k < 1 → parseFieldDescriptor (TX1 k).2.2.1 = some (tyX1 k) := by decide +kernel
abbrev cX1_init : ByteArray := prog_1_method_1_code
def yX1_init : MethodName := ⟨RX1, "<init>", "()V"⟩
abbrev cX1_width : ByteArray := prog_1_method_2_code
def yX1_width : MethodName := ⟨RX1, "width", "(II)V"⟩
abbrev cX1_value : ByteArray := prog_1_method_7_code
def yX1_value : MethodName := ⟨RX1, "value", "(I)I"⟩
abbrev cX1_widest : ByteArray := prog_1_method_4_code
def yX1_widest : MethodName := ⟨RX1, "widest", "()I"⟩
abbrev cX1_sum : ByteArray := prog_1_method_6_code
def yX1_sum : MethodName := ⟨RX1, "sum", "()I"⟩
abbrev cX1_withNarrow : ByteArray := prog_1_method_8_code
def yX1_withNarrow : MethodName := ⟨RX1, "withNarrow", "(I)I"⟩
abbrev cX1_narrow : ByteArray := prog_1_method_5_code
def yX1_narrow : MethodName := ⟨RX1, "narrow", "()Z"⟩
abbrev cX1_width_2 : ByteArray := prog_1_method_9_code
def yX1_width_2 : MethodName := ⟨RX1, "width", "(I)I"⟩
abbrev cX1_widths : ByteArray := prog_1_method_3_code
def yX1_widths : MethodName := ⟨RX1, "widths", "(IIII)V"⟩
theorem q4 : (Jvm.Cond.initialized "BarValueDesk") ∈ lw_all := lw_g (lw_at lw_m0 1 rfl) rfl
theorem q7 : (Jvm.Cond.instantiable "BarValueDesk" (1 : Nat)) ∈ lw_all := lw_g (lw_at lw_m0 4 rfl) rfl
theorem q9 : (Jvm.Cond.instanceMethod ({ cls := "BarValueDesk", name := "<init>", desc := "()V" } : Jvm.MethodName)) ∈ lw_all := lw_g (lw_at lw_m0 6 rfl) rfl
theorem q10 : (Jvm.Cond.code ({ cls := "BarValueDesk", name := "<init>", desc := "()V" } : Jvm.MethodName) prog_1_method_1_code (1 : Nat) (Option.none : Option Jvm.ClassFile.FieldType)) ∈ lw_all := lw_g (lw_at lw_m0 7 rfl) rfl
theorem q11 : (Jvm.Cond.methodLink "BarValueDesk" (1 : Nat) ({ cls := "java/lang/Object", name := "<init>", desc := "()V" } : Jvm.MethodName)) ∈ lw_all := lw_g (lw_at lw_m0 8 rfl) rfl
theorem q14 : (Jvm.Cond.fieldLink "BarValueDesk" (7 : Nat) "BarValueDesk" "widths" "[I") ∈ lw_all := lw_g (lw_at lw_m0 11 rfl) rfl
theorem q15 : (Jvm.Cond.laysFinal "BarValueDesk" "BarValueDesk" "widths" "[I") ∈ lw_all := lw_g (lw_at lw_m0 12 rfl) rfl
theorem q16 : (Jvm.Cond.soleField "BarValueDesk" "widths") ∈ lw_all := lw_g (lw_at lw_m0 13 rfl) rfl
theorem q17 : (Jvm.Cond.superclass "BarValueDesk" "java/lang/Object") ∈ lw_all := lw_g (lw_at lw_m0 14 rfl) rfl
theorem q20 : (Jvm.Cond.instanceMethod ({ cls := "BarValueDesk", name := "width", desc := "(II)V" } : Jvm.MethodName)) ∈ lw_all := lw_g (lw_at lw_m0 17 rfl) rfl
theorem q21 : (Jvm.Cond.selects "BarValueDesk" ({ cls := "BarValueDesk", name := "width", desc := "(II)V" } : Jvm.MethodName) ({ cls := "BarValueDesk", name := "width", desc := "(II)V" } : Jvm.MethodName)) ∈ lw_all := lw_g (lw_at lw_m0 18 rfl) rfl
theorem q22 : (Jvm.Cond.code ({ cls := "BarValueDesk", name := "width", desc := "(II)V" } : Jvm.MethodName) prog_1_method_2_code (3 : Nat) (Option.none : Option Jvm.ClassFile.FieldType)) ∈ lw_all := lw_g (lw_at lw_m0 19 rfl) rfl
theorem q46 : (Jvm.Cond.instanceMethod ({ cls := "BarValueDesk", name := "value", desc := "(I)I" } : Jvm.MethodName)) ∈ lw_all := lw_g (lw_at lw_m0 43 rfl) rfl
theorem q47 : (Jvm.Cond.selects "BarValueDesk" ({ cls := "BarValueDesk", name := "value", desc := "(I)I" } : Jvm.MethodName) ({ cls := "BarValueDesk", name := "value", desc := "(I)I" } : Jvm.MethodName)) ∈ lw_all := lw_g (lw_at lw_m0 44 rfl) rfl
theorem q48 : (Jvm.Cond.code ({ cls := "BarValueDesk", name := "value", desc := "(I)I" } : Jvm.MethodName) prog_1_method_7_code (4 : Nat) (Option.some Jvm.ClassFile.FieldType.int)) ∈ lw_all := lw_g (lw_at lw_m0 45 rfl) rfl
theorem q49 : (Jvm.Cond.methodLink "BarValueDesk" (13 : Nat) ({ cls := "BarValueDesk", name := "widest", desc := "()I" } : Jvm.MethodName)) ∈ lw_all := lw_g (lw_at lw_m0 46 rfl) rfl
theorem q50 : (Jvm.Cond.privateMethod ({ cls := "BarValueDesk", name := "widest", desc := "()I" } : Jvm.MethodName)) ∈ lw_tbl := lw_at lw_m0 47 rfl
theorem q51 : (Jvm.Cond.instanceMethod ({ cls := "BarValueDesk", name := "widest", desc := "()I" } : Jvm.MethodName)) ∈ lw_all := lw_g (lw_at lw_m0 48 rfl) rfl
theorem q52 : (Jvm.Cond.code ({ cls := "BarValueDesk", name := "widest", desc := "()I" } : Jvm.MethodName) prog_1_method_4_code (6 : Nat) (Option.some Jvm.ClassFile.FieldType.int)) ∈ lw_all := lw_g (lw_at lw_m0 49 rfl) rfl
theorem q53 : (Jvm.Cond.constant "BarValueDesk" (17 : Nat) (2147483647 : Int32)) ∈ lw_all := lw_g (lw_at lw_m0 50 rfl) rfl
theorem q54 : (Jvm.Cond.methodLink "BarValueDesk" (18 : Nat) ({ cls := "BarValueDesk", name := "sum", desc := "()I" } : Jvm.MethodName)) ∈ lw_all := lw_g (lw_at lw_m0 51 rfl) rfl
theorem q55 : (Jvm.Cond.privateMethod ({ cls := "BarValueDesk", name := "sum", desc := "()I" } : Jvm.MethodName)) ∈ lw_tbl := lw_at lw_m0 52 rfl
theorem q56 : (Jvm.Cond.instanceMethod ({ cls := "BarValueDesk", name := "sum", desc := "()I" } : Jvm.MethodName)) ∈ lw_all := lw_g (lw_at lw_m0 53 rfl) rfl
theorem q57 : (Jvm.Cond.code ({ cls := "BarValueDesk", name := "sum", desc := "()I" } : Jvm.MethodName) prog_1_method_6_code (1 : Nat) (Option.some Jvm.ClassFile.FieldType.int)) ∈ lw_all := lw_g (lw_at lw_m0 54 rfl) rfl
theorem q58 : (Jvm.Cond.methodLink "BarValueDesk" (21 : Nat) ({ cls := "RSSUtils", name := "getRSSvalue", desc := "([IIZ)I" } : Jvm.MethodName)) ∈ lw_all := lw_g (lw_at lw_m0 55 rfl) rfl
theorem q65 : (Jvm.Cond.instanceMethod ({ cls := "BarValueDesk", name := "withNarrow", desc := "(I)I" } : Jvm.MethodName)) ∈ lw_all := lw_g (lw_at lw_m0 62 rfl) rfl
theorem q66 : (Jvm.Cond.selects "BarValueDesk" ({ cls := "BarValueDesk", name := "withNarrow", desc := "(I)I" } : Jvm.MethodName) ({ cls := "BarValueDesk", name := "withNarrow", desc := "(I)I" } : Jvm.MethodName)) ∈ lw_all := lw_g (lw_at lw_m0 63 rfl) rfl
theorem q67 : (Jvm.Cond.code ({ cls := "BarValueDesk", name := "withNarrow", desc := "(I)I" } : Jvm.MethodName) prog_1_method_8_code (4 : Nat) (Option.some Jvm.ClassFile.FieldType.int)) ∈ lw_all := lw_g (lw_at lw_m0 64 rfl) rfl
theorem q68 : (Jvm.Cond.methodLink "BarValueDesk" (27 : Nat) ({ cls := "BarValueDesk", name := "narrow", desc := "()Z" } : Jvm.MethodName)) ∈ lw_all := lw_g (lw_at lw_m0 65 rfl) rfl
theorem q69 : (Jvm.Cond.privateMethod ({ cls := "BarValueDesk", name := "narrow", desc := "()Z" } : Jvm.MethodName)) ∈ lw_tbl := lw_at lw_m0 66 rfl
theorem q70 : (Jvm.Cond.instanceMethod ({ cls := "BarValueDesk", name := "narrow", desc := "()Z" } : Jvm.MethodName)) ∈ lw_all := lw_g (lw_at lw_m0 67 rfl) rfl
theorem q71 : (Jvm.Cond.code ({ cls := "BarValueDesk", name := "narrow", desc := "()Z" } : Jvm.MethodName) prog_1_method_5_code (5 : Nat) (Option.some Jvm.ClassFile.FieldType.boolean)) ∈ lw_all := lw_g (lw_at lw_m0 68 rfl) rfl
theorem q76 : (Jvm.Cond.instanceMethod ({ cls := "BarValueDesk", name := "width", desc := "(I)I" } : Jvm.MethodName)) ∈ lw_all := lw_g (lw_at lw_m0 73 rfl) rfl
theorem q77 : (Jvm.Cond.selects "BarValueDesk" ({ cls := "BarValueDesk", name := "width", desc := "(I)I" } : Jvm.MethodName) ({ cls := "BarValueDesk", name := "width", desc := "(I)I" } : Jvm.MethodName)) ∈ lw_all := lw_g (lw_at lw_m0 74 rfl) rfl
theorem q78 : (Jvm.Cond.code ({ cls := "BarValueDesk", name := "width", desc := "(I)I" } : Jvm.MethodName) prog_1_method_9_code (2 : Nat) (Option.some Jvm.ClassFile.FieldType.int)) ∈ lw_all := lw_g (lw_at lw_m0 75 rfl) rfl
theorem q83 : (Jvm.Cond.instanceMethod ({ cls := "BarValueDesk", name := "widths", desc := "(IIII)V" } : Jvm.MethodName)) ∈ lw_all := lw_g (lw_at lw_m0 80 rfl) rfl
theorem q84 : (Jvm.Cond.selects "BarValueDesk" ({ cls := "BarValueDesk", name := "widths", desc := "(IIII)V" } : Jvm.MethodName) ({ cls := "BarValueDesk", name := "widths", desc := "(IIII)V" } : Jvm.MethodName)) ∈ lw_all := lw_g (lw_at lw_m0 81 rfl) rfl
theorem q85 : (Jvm.Cond.code ({ cls := "BarValueDesk", name := "widths", desc := "(IIII)V" } : Jvm.MethodName) prog_1_method_3_code (5 : Nat) (Option.none : Option Jvm.ClassFile.FieldType)) ∈ lw_all := lw_g (lw_at lw_m0 82 rfl) rfl
theorem in_X1 : ∀ w ∈ wsX10, w ∈ lw_all := lw_in wsX10 [15] (by decide +kernel) (by decide +kernel)
def RX0 : String := "BarValueDeskLaw"
abbrev cX0_cell : ByteArray := method_2_code
def yX0_cell : MethodName := ⟨RX0, "cell", "([II)I"⟩
abbrev cX0_values : ByteArray := method_8_code
def yX0_values : MethodName := ⟨RX0, "values", "(LBarValueDesk;[II)Z"⟩
abbrev cX0_most : ByteArray := method_7_code
def yX0_most : MethodName := ⟨RX0, "most", "([II)I"⟩
abbrev cX0_widest : ByteArray := method_3_code
def yX0_widest : MethodName := ⟨RX0, "widest", "([I)I"⟩
abbrev cX0_sum : ByteArray := method_4_code
def yX0_sum : MethodName := ⟨RX0, "sum", "([I)I"⟩
abbrev cX0_narrow : ByteArray := method_5_code
def yX0_narrow : MethodName := ⟨RX0, "narrow", "(IIII)Z"⟩
abbrev cX0_ahead : ByteArray := method_6_code
def yX0_ahead : MethodName := ⟨RX0, "ahead", "([IIZ)I"⟩
abbrev cX0_holds : ByteArray := method_9_code
def yX0_holds : MethodName := ⟨RX0, "holds", "(LBarValueDesk;[I)Z"⟩
abbrev cX0_told : ByteArray := method_10_code
def yX0_told : MethodName := ⟨RX0, "told", "(LBarValueDesk;[II)V"⟩
theorem q3 : (Jvm.Cond.initialized "BarValueDeskLaw") ∈ lw_all := lw_g (lw_at lw_m0 0 rfl) rfl
theorem q6 : (Jvm.Cond.classLink "BarValueDeskLaw" (30 : Nat) "BarValueDesk") ∈ lw_all := lw_g (lw_at lw_m0 3 rfl) rfl
theorem q8 : (Jvm.Cond.methodLink "BarValueDeskLaw" (48 : Nat) ({ cls := "BarValueDesk", name := "<init>", desc := "()V" } : Jvm.MethodName)) ∈ lw_all := lw_g (lw_at lw_m0 5 rfl) rfl
theorem q19 : (Jvm.Cond.methodLink "BarValueDeskLaw" (41 : Nat) ({ cls := "BarValueDesk", name := "width", desc := "(II)V" } : Jvm.MethodName)) ∈ lw_all := lw_g (lw_at lw_m0 16 rfl) rfl
theorem q23 : (Jvm.Cond.methodLink "BarValueDeskLaw" (53 : Nat) ({ cls := "BarValueDeskLaw", name := "cell", desc := "([II)I" } : Jvm.MethodName)) ∈ lw_all := lw_g (lw_at lw_m0 20 rfl) rfl
theorem q24 : (Jvm.Cond.static ({ cls := "BarValueDeskLaw", name := "cell", desc := "([II)I" } : Jvm.MethodName)) ∈ lw_all := lw_g (lw_at lw_m0 21 rfl) rfl
theorem q25 : (Jvm.Cond.code ({ cls := "BarValueDeskLaw", name := "cell", desc := "([II)I" } : Jvm.MethodName) method_2_code (2 : Nat) (Option.some Jvm.ClassFile.FieldType.int)) ∈ lw_all := lw_g (lw_at lw_m0 22 rfl) rfl
theorem q26 : (Jvm.Cond.methodLink "BarValueDeskLaw" (60 : Nat) ({ cls := "BarValueDeskLaw", name := "values", desc := "(LBarValueDesk;[II)Z" } : Jvm.MethodName)) ∈ lw_all := lw_g (lw_at lw_m0 23 rfl) rfl
theorem q27 : (Jvm.Cond.static ({ cls := "BarValueDeskLaw", name := "values", desc := "(LBarValueDesk;[II)Z" } : Jvm.MethodName)) ∈ lw_all := lw_g (lw_at lw_m0 24 rfl) rfl
theorem q28 : (Jvm.Cond.code ({ cls := "BarValueDeskLaw", name := "values", desc := "(LBarValueDesk;[II)Z" } : Jvm.MethodName) method_8_code (9 : Nat) (Option.some Jvm.ClassFile.FieldType.boolean)) ∈ lw_all := lw_g (lw_at lw_m0 25 rfl) rfl
theorem q29 : (Jvm.Cond.methodLink "BarValueDeskLaw" (21 : Nat) ({ cls := "BarValueDeskLaw", name := "most", desc := "([II)I" } : Jvm.MethodName)) ∈ lw_all := lw_g (lw_at lw_m0 26 rfl) rfl
theorem q30 : (Jvm.Cond.static ({ cls := "BarValueDeskLaw", name := "most", desc := "([II)I" } : Jvm.MethodName)) ∈ lw_all := lw_g (lw_at lw_m0 27 rfl) rfl
theorem q31 : (Jvm.Cond.code ({ cls := "BarValueDeskLaw", name := "most", desc := "([II)I" } : Jvm.MethodName) method_7_code (2 : Nat) (Option.some Jvm.ClassFile.FieldType.int)) ∈ lw_all := lw_g (lw_at lw_m0 28 rfl) rfl
theorem q32 : (Jvm.Cond.methodLink "BarValueDeskLaw" (17 : Nat) ({ cls := "BarValueDeskLaw", name := "widest", desc := "([I)I" } : Jvm.MethodName)) ∈ lw_all := lw_g (lw_at lw_m0 29 rfl) rfl
theorem q33 : (Jvm.Cond.static ({ cls := "BarValueDeskLaw", name := "widest", desc := "([I)I" } : Jvm.MethodName)) ∈ lw_all := lw_g (lw_at lw_m0 30 rfl) rfl
theorem q34 : (Jvm.Cond.code ({ cls := "BarValueDeskLaw", name := "widest", desc := "([I)I" } : Jvm.MethodName) method_3_code (6 : Nat) (Option.some Jvm.ClassFile.FieldType.int)) ∈ lw_all := lw_g (lw_at lw_m0 31 rfl) rfl
theorem q35 : (Jvm.Cond.constant "BarValueDeskLaw" (20 : Nat) (2147483647 : Int32)) ∈ lw_all := lw_g (lw_at lw_m0 32 rfl) rfl
theorem q36 : (Jvm.Cond.methodLink "BarValueDeskLaw" (7 : Nat) ({ cls := "BarValueDeskLaw", name := "sum", desc := "([I)I" } : Jvm.MethodName)) ∈ lw_all := lw_g (lw_at lw_m0 33 rfl) rfl
theorem q37 : (Jvm.Cond.static ({ cls := "BarValueDeskLaw", name := "sum", desc := "([I)I" } : Jvm.MethodName)) ∈ lw_all := lw_g (lw_at lw_m0 34 rfl) rfl
theorem q38 : (Jvm.Cond.code ({ cls := "BarValueDeskLaw", name := "sum", desc := "([I)I" } : Jvm.MethodName) method_4_code (1 : Nat) (Option.some Jvm.ClassFile.FieldType.int)) ∈ lw_all := lw_g (lw_at lw_m0 35 rfl) rfl
theorem q39 : (Jvm.Cond.methodLink "BarValueDeskLaw" (13 : Nat) ({ cls := "BarValueDeskLaw", name := "narrow", desc := "(IIII)Z" } : Jvm.MethodName)) ∈ lw_all := lw_g (lw_at lw_m0 36 rfl) rfl
theorem q40 : (Jvm.Cond.static ({ cls := "BarValueDeskLaw", name := "narrow", desc := "(IIII)Z" } : Jvm.MethodName)) ∈ lw_all := lw_g (lw_at lw_m0 37 rfl) rfl
theorem q41 : (Jvm.Cond.code ({ cls := "BarValueDeskLaw", name := "narrow", desc := "(IIII)Z" } : Jvm.MethodName) method_5_code (4 : Nat) (Option.some Jvm.ClassFile.FieldType.boolean)) ∈ lw_all := lw_g (lw_at lw_m0 38 rfl) rfl
theorem q42 : (Jvm.Cond.methodLink "BarValueDeskLaw" (25 : Nat) ({ cls := "BarValueDeskLaw", name := "ahead", desc := "([IIZ)I" } : Jvm.MethodName)) ∈ lw_all := lw_g (lw_at lw_m0 39 rfl) rfl
theorem q43 : (Jvm.Cond.static ({ cls := "BarValueDeskLaw", name := "ahead", desc := "([IIZ)I" } : Jvm.MethodName)) ∈ lw_all := lw_g (lw_at lw_m0 40 rfl) rfl
theorem q44 : (Jvm.Cond.code ({ cls := "BarValueDeskLaw", name := "ahead", desc := "([IIZ)I" } : Jvm.MethodName) method_6_code (9 : Nat) (Option.some Jvm.ClassFile.FieldType.int)) ∈ lw_all := lw_g (lw_at lw_m0 41 rfl) rfl
theorem q45 : (Jvm.Cond.methodLink "BarValueDeskLaw" (29 : Nat) ({ cls := "BarValueDesk", name := "value", desc := "(I)I" } : Jvm.MethodName)) ∈ lw_all := lw_g (lw_at lw_m0 42 rfl) rfl
theorem q64 : (Jvm.Cond.methodLink "BarValueDeskLaw" (35 : Nat) ({ cls := "BarValueDesk", name := "withNarrow", desc := "(I)I" } : Jvm.MethodName)) ∈ lw_all := lw_g (lw_at lw_m0 61 rfl) rfl
theorem q72 : (Jvm.Cond.methodLink "BarValueDeskLaw" (49 : Nat) ({ cls := "BarValueDeskLaw", name := "holds", desc := "(LBarValueDesk;[I)Z" } : Jvm.MethodName)) ∈ lw_all := lw_g (lw_at lw_m0 69 rfl) rfl
theorem q73 : (Jvm.Cond.static ({ cls := "BarValueDeskLaw", name := "holds", desc := "(LBarValueDesk;[I)Z" } : Jvm.MethodName)) ∈ lw_all := lw_g (lw_at lw_m0 70 rfl) rfl
theorem q74 : (Jvm.Cond.code ({ cls := "BarValueDeskLaw", name := "holds", desc := "(LBarValueDesk;[I)Z" } : Jvm.MethodName) method_9_code (3 : Nat) (Option.some Jvm.ClassFile.FieldType.boolean)) ∈ lw_all := lw_g (lw_at lw_m0 71 rfl) rfl
theorem q75 : (Jvm.Cond.methodLink "BarValueDeskLaw" (38 : Nat) ({ cls := "BarValueDesk", name := "width", desc := "(I)I" } : Jvm.MethodName)) ∈ lw_all := lw_g (lw_at lw_m0 72 rfl) rfl
theorem q79 : (Jvm.Cond.methodLink "BarValueDeskLaw" (56 : Nat) ({ cls := "BarValueDeskLaw", name := "told", desc := "(LBarValueDesk;[II)V" } : Jvm.MethodName)) ∈ lw_all := lw_g (lw_at lw_m0 76 rfl) rfl
theorem q80 : (Jvm.Cond.static ({ cls := "BarValueDeskLaw", name := "told", desc := "(LBarValueDesk;[II)V" } : Jvm.MethodName)) ∈ lw_all := lw_g (lw_at lw_m0 77 rfl) rfl
theorem q81 : (Jvm.Cond.code ({ cls := "BarValueDeskLaw", name := "told", desc := "(LBarValueDesk;[II)V" } : Jvm.MethodName) method_10_code (5 : Nat) (Option.none : Option Jvm.ClassFile.FieldType)) ∈ lw_all := lw_g (lw_at lw_m0 78 rfl) rfl
theorem q82 : (Jvm.Cond.methodLink "BarValueDeskLaw" (44 : Nat) ({ cls := "BarValueDesk", name := "widths", desc := "(IIII)V" } : Jvm.MethodName)) ∈ lw_all := lw_g (lw_at lw_m0 79 rfl) rfl
abbrev cL_law : ByteArray := code
abbrev wsJ0_init : List Cond := ws_ yJ0_init cJ0_init 1 none
abbrev wsX2_getRSSvalue : List Cond := ws_ yX2_getRSSvalue cX2_getRSSvalue 12 (some .int)
abbrev wsX2_combins : List Cond := ws_ yX2_combins cX2_combins 7 (some .int)
abbrev wsX1_init : List Cond := ws_ yX1_init cX1_init 1 none
abbrev wsX1_width : List Cond := ws_ yX1_width cX1_width 3 none
abbrev wsX1_value : List Cond := ws_ yX1_value cX1_value 4 (some .int)
abbrev wsX1_widest : List Cond := ws_ yX1_widest cX1_widest 6 (some .int)
abbrev wsX1_sum : List Cond := ws_ yX1_sum cX1_sum 1 (some .int)
abbrev wsX1_withNarrow : List Cond := ws_ yX1_withNarrow cX1_withNarrow 4 (some .int)
abbrev wsX1_narrow : List Cond := ws_ yX1_narrow cX1_narrow 5 (some .boolean)
abbrev wsX1_width_2 : List Cond := ws_ yX1_width_2 cX1_width_2 2 (some .int)
abbrev wsX1_widths : List Cond := ws_ yX1_widths cX1_widths 5 none
abbrev wsX0_cell : List Cond := ws_ yX0_cell cX0_cell 2 (some .int)
abbrev wsX0_values : List Cond := ws_ yX0_values cX0_values 9 (some .boolean)
abbrev wsX0_most : List Cond := ws_ yX0_most cX0_most 2 (some .int)
abbrev wsX0_widest : List Cond := ws_ yX0_widest cX0_widest 6 (some .int)
abbrev wsX0_sum : List Cond := ws_ yX0_sum cX0_sum 1 (some .int)
abbrev wsX0_narrow : List Cond := ws_ yX0_narrow cX0_narrow 4 (some .boolean)
abbrev wsX0_ahead : List Cond := ws_ yX0_ahead cX0_ahead 9 (some .int)
abbrev wsX0_holds : List Cond := ws_ yX0_holds cX0_holds 3 (some .boolean)
abbrev wsX0_told : List Cond := ws_ yX0_told cX0_told 5 none
abbrev vwCl : List vw_C := [(RX1, TX1, 1)]
end
section
set_option maxRecDepth 100000
theorem dX2_getRSSvalue_0 : decode cX2_getRSSvalue 0 = .ok (.iconst 0, 1) := by decide +kernel
theorem dX2_getRSSvalue_1 : decode cX2_getRSSvalue 1 = .ok (.istore_n 3, 1) := by decide +kernel
theorem dX2_getRSSvalue_2 : decode cX2_getRSSvalue 2 = .ok (.aload_n 0, 1) := by decide +kernel
theorem dX2_getRSSvalue_3 : decode cX2_getRSSvalue 3 = .ok (.astore 4, 2) := by decide +kernel
theorem dX2_getRSSvalue_5 : decode cX2_getRSSvalue 5 = .ok (.aload 4, 2) := by decide +kernel
theorem dX2_getRSSvalue_7 : decode cX2_getRSSvalue 7 = .ok (.arraylength, 1) := by decide +kernel
theorem dX2_getRSSvalue_8 : decode cX2_getRSSvalue 8 = .ok (.istore 5, 2) := by decide +kernel
theorem dX2_getRSSvalue_10 : decode cX2_getRSSvalue 10 = .ok (.iconst 0, 1) := by decide +kernel
theorem dX2_getRSSvalue_11 : decode cX2_getRSSvalue 11 = .ok (.istore 6, 2) := by decide +kernel
theorem dX2_getRSSvalue_13 : decode cX2_getRSSvalue 13 = .ok (.iload 6, 2) := by decide +kernel
theorem dX2_getRSSvalue_15 : decode cX2_getRSSvalue 15 = .ok (.iload 5, 2) := by decide +kernel
theorem dX2_getRSSvalue_17 : decode cX2_getRSSvalue 17 = .ok (.if_icmp .ge 21, 3) := by decide +kernel
theorem dX2_getRSSvalue_20 : decode cX2_getRSSvalue 20 = .ok (.aload 4, 2) := by decide +kernel
theorem dX2_getRSSvalue_22 : decode cX2_getRSSvalue 22 = .ok (.iload 6, 2) := by decide +kernel
theorem dX2_getRSSvalue_24 : decode cX2_getRSSvalue 24 = .ok (.iaload, 1) := by decide +kernel
theorem dX2_getRSSvalue_25 : decode cX2_getRSSvalue 25 = .ok (.istore 7, 2) := by decide +kernel
theorem dX2_getRSSvalue_27 : decode cX2_getRSSvalue 27 = .ok (.iload_n 3, 1) := by decide +kernel
theorem dX2_getRSSvalue_28 : decode cX2_getRSSvalue 28 = .ok (.iload 7, 2) := by decide +kernel
theorem dX2_getRSSvalue_30 : decode cX2_getRSSvalue 30 = .ok (.iadd, 1) := by decide +kernel
theorem dX2_getRSSvalue_31 : decode cX2_getRSSvalue 31 = .ok (.istore_n 3, 1) := by decide +kernel
theorem dX2_getRSSvalue_32 : decode cX2_getRSSvalue 32 = .ok (.iinc 6 1, 3) := by decide +kernel
theorem dX2_getRSSvalue_35 : decode cX2_getRSSvalue 35 = .ok (.goto (-22), 3) := by decide +kernel
theorem dX2_getRSSvalue_38 : decode cX2_getRSSvalue 38 = .ok (.iconst 0, 1) := by decide +kernel
theorem dX2_getRSSvalue_39 : decode cX2_getRSSvalue 39 = .ok (.istore 4, 2) := by decide +kernel
theorem dX2_getRSSvalue_41 : decode cX2_getRSSvalue 41 = .ok (.iconst 0, 1) := by decide +kernel
theorem dX2_getRSSvalue_42 : decode cX2_getRSSvalue 42 = .ok (.istore 5, 2) := by decide +kernel
theorem dX2_getRSSvalue_44 : decode cX2_getRSSvalue 44 = .ok (.aload_n 0, 1) := by decide +kernel
theorem dX2_getRSSvalue_45 : decode cX2_getRSSvalue 45 = .ok (.arraylength, 1) := by decide +kernel
theorem dX2_getRSSvalue_46 : decode cX2_getRSSvalue 46 = .ok (.istore 6, 2) := by decide +kernel
theorem dX2_getRSSvalue_48 : decode cX2_getRSSvalue 48 = .ok (.iconst 0, 1) := by decide +kernel
theorem dX2_getRSSvalue_49 : decode cX2_getRSSvalue 49 = .ok (.istore 7, 2) := by decide +kernel
theorem dX2_getRSSvalue_51 : decode cX2_getRSSvalue 51 = .ok (.iload 7, 2) := by decide +kernel
theorem dX2_getRSSvalue_53 : decode cX2_getRSSvalue 53 = .ok (.iload 6, 2) := by decide +kernel
theorem dX2_getRSSvalue_55 : decode cX2_getRSSvalue 55 = .ok (.iconst 1, 1) := by decide +kernel
theorem dX2_getRSSvalue_56 : decode cX2_getRSSvalue 56 = .ok (.isub, 1) := by decide +kernel
theorem dX2_getRSSvalue_57 : decode cX2_getRSSvalue 57 = .ok (.if_icmp .ge 226, 3) := by decide +kernel
theorem dX2_getRSSvalue_60 : decode cX2_getRSSvalue 60 = .ok (.iconst 1, 1) := by decide +kernel
theorem dX2_getRSSvalue_61 : decode cX2_getRSSvalue 61 = .ok (.istore 8, 2) := by decide +kernel
theorem dX2_getRSSvalue_63 : decode cX2_getRSSvalue 63 = .ok (.iload 5, 2) := by decide +kernel
theorem dX2_getRSSvalue_65 : decode cX2_getRSSvalue 65 = .ok (.iconst 1, 1) := by decide +kernel
theorem dX2_getRSSvalue_66 : decode cX2_getRSSvalue 66 = .ok (.iload 7, 2) := by decide +kernel
theorem dX2_getRSSvalue_68 : decode cX2_getRSSvalue 68 = .ok (.ishl, 1) := by decide +kernel
theorem dX2_getRSSvalue_69 : decode cX2_getRSSvalue 69 = .ok (.ior, 1) := by decide +kernel
theorem dX2_getRSSvalue_70 : decode cX2_getRSSvalue 70 = .ok (.istore 5, 2) := by decide +kernel
theorem dX2_getRSSvalue_72 : decode cX2_getRSSvalue 72 = .ok (.iload 8, 2) := by decide +kernel
theorem dX2_getRSSvalue_74 : decode cX2_getRSSvalue 74 = .ok (.aload_n 0, 1) := by decide +kernel
theorem dX2_getRSSvalue_75 : decode cX2_getRSSvalue 75 = .ok (.iload 7, 2) := by decide +kernel
theorem dX2_getRSSvalue_77 : decode cX2_getRSSvalue 77 = .ok (.iaload, 1) := by decide +kernel
theorem dX2_getRSSvalue_78 : decode cX2_getRSSvalue 78 = .ok (.if_icmp .ge 194, 3) := by decide +kernel
theorem dX2_getRSSvalue_81 : decode cX2_getRSSvalue 81 = .ok (.iload_n 3, 1) := by decide +kernel
theorem dX2_getRSSvalue_82 : decode cX2_getRSSvalue 82 = .ok (.iload 8, 2) := by decide +kernel
theorem dX2_getRSSvalue_84 : decode cX2_getRSSvalue 84 = .ok (.isub, 1) := by decide +kernel
theorem dX2_getRSSvalue_85 : decode cX2_getRSSvalue 85 = .ok (.iconst 1, 1) := by decide +kernel
theorem dX2_getRSSvalue_86 : decode cX2_getRSSvalue 86 = .ok (.isub, 1) := by decide +kernel
theorem dX2_getRSSvalue_87 : decode cX2_getRSSvalue 87 = .ok (.iload 6, 2) := by decide +kernel
theorem dX2_getRSSvalue_89 : decode cX2_getRSSvalue 89 = .ok (.iload 7, 2) := by decide +kernel
theorem dX2_getRSSvalue_91 : decode cX2_getRSSvalue 91 = .ok (.isub, 1) := by decide +kernel
theorem dX2_getRSSvalue_92 : decode cX2_getRSSvalue 92 = .ok (.iconst 2, 1) := by decide +kernel
theorem dX2_getRSSvalue_93 : decode cX2_getRSSvalue 93 = .ok (.isub, 1) := by decide +kernel
theorem dX2_getRSSvalue_94 : decode cX2_getRSSvalue 94 = .ok (.invokestatic 1, 3) := by decide +kernel
theorem dX2_getRSSvalue_97 : decode cX2_getRSSvalue 97 = .ok (.istore 9, 2) := by decide +kernel
theorem dX2_getRSSvalue_99 : decode cX2_getRSSvalue 99 = .ok (.iload_n 2, 1) := by decide +kernel
theorem dX2_getRSSvalue_100 : decode cX2_getRSSvalue 100 = .ok (.ifCond .eq 55, 3) := by decide +kernel
theorem dX2_getRSSvalue_103 : decode cX2_getRSSvalue 103 = .ok (.iload 5, 2) := by decide +kernel
theorem dX2_getRSSvalue_105 : decode cX2_getRSSvalue 105 = .ok (.ifCond .ne 50, 3) := by decide +kernel
theorem dX2_getRSSvalue_108 : decode cX2_getRSSvalue 108 = .ok (.iload_n 3, 1) := by decide +kernel
theorem dX2_getRSSvalue_109 : decode cX2_getRSSvalue 109 = .ok (.iload 8, 2) := by decide +kernel
theorem dX2_getRSSvalue_111 : decode cX2_getRSSvalue 111 = .ok (.isub, 1) := by decide +kernel
theorem dX2_getRSSvalue_112 : decode cX2_getRSSvalue 112 = .ok (.iload 6, 2) := by decide +kernel
theorem dX2_getRSSvalue_114 : decode cX2_getRSSvalue 114 = .ok (.iload 7, 2) := by decide +kernel
theorem dX2_getRSSvalue_116 : decode cX2_getRSSvalue 116 = .ok (.isub, 1) := by decide +kernel
theorem dX2_getRSSvalue_117 : decode cX2_getRSSvalue 117 = .ok (.iconst 1, 1) := by decide +kernel
theorem dX2_getRSSvalue_118 : decode cX2_getRSSvalue 118 = .ok (.isub, 1) := by decide +kernel
theorem dX2_getRSSvalue_119 : decode cX2_getRSSvalue 119 = .ok (.isub, 1) := by decide +kernel
theorem dX2_getRSSvalue_120 : decode cX2_getRSSvalue 120 = .ok (.iload 6, 2) := by decide +kernel
theorem dX2_getRSSvalue_122 : decode cX2_getRSSvalue 122 = .ok (.iload 7, 2) := by decide +kernel
theorem dX2_getRSSvalue_124 : decode cX2_getRSSvalue 124 = .ok (.isub, 1) := by decide +kernel
theorem dX2_getRSSvalue_125 : decode cX2_getRSSvalue 125 = .ok (.iconst 1, 1) := by decide +kernel
theorem dX2_getRSSvalue_126 : decode cX2_getRSSvalue 126 = .ok (.isub, 1) := by decide +kernel
theorem dX2_getRSSvalue_127 : decode cX2_getRSSvalue 127 = .ok (.if_icmp .lt 28, 3) := by decide +kernel
theorem dX2_getRSSvalue_130 : decode cX2_getRSSvalue 130 = .ok (.iload 9, 2) := by decide +kernel
theorem dX2_getRSSvalue_132 : decode cX2_getRSSvalue 132 = .ok (.iload_n 3, 1) := by decide +kernel
theorem dX2_getRSSvalue_133 : decode cX2_getRSSvalue 133 = .ok (.iload 8, 2) := by decide +kernel
theorem dX2_getRSSvalue_135 : decode cX2_getRSSvalue 135 = .ok (.isub, 1) := by decide +kernel
theorem dX2_getRSSvalue_136 : decode cX2_getRSSvalue 136 = .ok (.iload 6, 2) := by decide +kernel
theorem dX2_getRSSvalue_138 : decode cX2_getRSSvalue 138 = .ok (.iload 7, 2) := by decide +kernel
theorem dX2_getRSSvalue_140 : decode cX2_getRSSvalue 140 = .ok (.isub, 1) := by decide +kernel
theorem dX2_getRSSvalue_141 : decode cX2_getRSSvalue 141 = .ok (.isub, 1) := by decide +kernel
theorem dX2_getRSSvalue_142 : decode cX2_getRSSvalue 142 = .ok (.iload 6, 2) := by decide +kernel
theorem dX2_getRSSvalue_144 : decode cX2_getRSSvalue 144 = .ok (.iload 7, 2) := by decide +kernel
theorem dX2_getRSSvalue_146 : decode cX2_getRSSvalue 146 = .ok (.isub, 1) := by decide +kernel
theorem dX2_getRSSvalue_147 : decode cX2_getRSSvalue 147 = .ok (.iconst 2, 1) := by decide +kernel
theorem dX2_getRSSvalue_148 : decode cX2_getRSSvalue 148 = .ok (.isub, 1) := by decide +kernel
theorem dX2_getRSSvalue_149 : decode cX2_getRSSvalue 149 = .ok (.invokestatic 1, 3) := by decide +kernel
theorem dX2_getRSSvalue_152 : decode cX2_getRSSvalue 152 = .ok (.isub, 1) := by decide +kernel
theorem dX2_getRSSvalue_153 : decode cX2_getRSSvalue 153 = .ok (.istore 9, 2) := by decide +kernel
theorem dX2_getRSSvalue_155 : decode cX2_getRSSvalue 155 = .ok (.iload 6, 2) := by decide +kernel
theorem dX2_getRSSvalue_157 : decode cX2_getRSSvalue 157 = .ok (.iload 7, 2) := by decide +kernel
theorem dX2_getRSSvalue_159 : decode cX2_getRSSvalue 159 = .ok (.isub, 1) := by decide +kernel
theorem dX2_getRSSvalue_160 : decode cX2_getRSSvalue 160 = .ok (.iconst 1, 1) := by decide +kernel
theorem dX2_getRSSvalue_161 : decode cX2_getRSSvalue 161 = .ok (.isub, 1) := by decide +kernel
theorem dX2_getRSSvalue_162 : decode cX2_getRSSvalue 162 = .ok (.iconst 1, 1) := by decide +kernel
theorem dX2_getRSSvalue_163 : decode cX2_getRSSvalue 163 = .ok (.if_icmp .le 74, 3) := by decide +kernel
theorem dX2_getRSSvalue_166 : decode cX2_getRSSvalue 166 = .ok (.iconst 0, 1) := by decide +kernel
theorem dX2_getRSSvalue_167 : decode cX2_getRSSvalue 167 = .ok (.istore 10, 2) := by decide +kernel
theorem dX2_getRSSvalue_169 : decode cX2_getRSSvalue 169 = .ok (.iload_n 3, 1) := by decide +kernel
theorem dX2_getRSSvalue_170 : decode cX2_getRSSvalue 170 = .ok (.iload 8, 2) := by decide +kernel
theorem dX2_getRSSvalue_172 : decode cX2_getRSSvalue 172 = .ok (.isub, 1) := by decide +kernel
theorem dX2_getRSSvalue_173 : decode cX2_getRSSvalue 173 = .ok (.iload 6, 2) := by decide +kernel
theorem dX2_getRSSvalue_175 : decode cX2_getRSSvalue 175 = .ok (.iload 7, 2) := by decide +kernel
theorem dX2_getRSSvalue_177 : decode cX2_getRSSvalue 177 = .ok (.isub, 1) := by decide +kernel
theorem dX2_getRSSvalue_178 : decode cX2_getRSSvalue 178 = .ok (.iconst 2, 1) := by decide +kernel
theorem dX2_getRSSvalue_179 : decode cX2_getRSSvalue 179 = .ok (.isub, 1) := by decide +kernel
theorem dX2_getRSSvalue_180 : decode cX2_getRSSvalue 180 = .ok (.isub, 1) := by decide +kernel
theorem dX2_getRSSvalue_181 : decode cX2_getRSSvalue 181 = .ok (.istore 11, 2) := by decide +kernel
theorem dX2_getRSSvalue_183 : decode cX2_getRSSvalue 183 = .ok (.iload 11, 2) := by decide +kernel
theorem dX2_getRSSvalue_185 : decode cX2_getRSSvalue 185 = .ok (.iload_n 1, 1) := by decide +kernel
theorem dX2_getRSSvalue_186 : decode cX2_getRSSvalue 186 = .ok (.if_icmp .le 33, 3) := by decide +kernel
theorem dX2_getRSSvalue_189 : decode cX2_getRSSvalue 189 = .ok (.iload 10, 2) := by decide +kernel
theorem dX2_getRSSvalue_191 : decode cX2_getRSSvalue 191 = .ok (.iload_n 3, 1) := by decide +kernel
theorem dX2_getRSSvalue_192 : decode cX2_getRSSvalue 192 = .ok (.iload 8, 2) := by decide +kernel
theorem dX2_getRSSvalue_194 : decode cX2_getRSSvalue 194 = .ok (.isub, 1) := by decide +kernel
theorem dX2_getRSSvalue_195 : decode cX2_getRSSvalue 195 = .ok (.iload 11, 2) := by decide +kernel
theorem dX2_getRSSvalue_197 : decode cX2_getRSSvalue 197 = .ok (.isub, 1) := by decide +kernel
theorem dX2_getRSSvalue_198 : decode cX2_getRSSvalue 198 = .ok (.iconst 1, 1) := by decide +kernel
theorem dX2_getRSSvalue_199 : decode cX2_getRSSvalue 199 = .ok (.isub, 1) := by decide +kernel
theorem dX2_getRSSvalue_200 : decode cX2_getRSSvalue 200 = .ok (.iload 6, 2) := by decide +kernel
theorem dX2_getRSSvalue_202 : decode cX2_getRSSvalue 202 = .ok (.iload 7, 2) := by decide +kernel
theorem dX2_getRSSvalue_204 : decode cX2_getRSSvalue 204 = .ok (.isub, 1) := by decide +kernel
theorem dX2_getRSSvalue_205 : decode cX2_getRSSvalue 205 = .ok (.iconst 3, 1) := by decide +kernel
theorem dX2_getRSSvalue_206 : decode cX2_getRSSvalue 206 = .ok (.isub, 1) := by decide +kernel
theorem dX2_getRSSvalue_207 : decode cX2_getRSSvalue 207 = .ok (.invokestatic 1, 3) := by decide +kernel
theorem dX2_getRSSvalue_210 : decode cX2_getRSSvalue 210 = .ok (.iadd, 1) := by decide +kernel
theorem dX2_getRSSvalue_211 : decode cX2_getRSSvalue 211 = .ok (.istore 10, 2) := by decide +kernel
theorem dX2_getRSSvalue_213 : decode cX2_getRSSvalue 213 = .ok (.iinc 11 (-1), 3) := by decide +kernel
theorem dX2_getRSSvalue_216 : decode cX2_getRSSvalue 216 = .ok (.goto (-33), 3) := by decide +kernel
theorem dX2_getRSSvalue_219 : decode cX2_getRSSvalue 219 = .ok (.iload 9, 2) := by decide +kernel
theorem dX2_getRSSvalue_221 : decode cX2_getRSSvalue 221 = .ok (.iload 10, 2) := by decide +kernel
theorem dX2_getRSSvalue_223 : decode cX2_getRSSvalue 223 = .ok (.iload 6, 2) := by decide +kernel
theorem dX2_getRSSvalue_225 : decode cX2_getRSSvalue 225 = .ok (.iconst 1, 1) := by decide +kernel
theorem dX2_getRSSvalue_226 : decode cX2_getRSSvalue 226 = .ok (.isub, 1) := by decide +kernel
theorem dX2_getRSSvalue_227 : decode cX2_getRSSvalue 227 = .ok (.iload 7, 2) := by decide +kernel
theorem dX2_getRSSvalue_229 : decode cX2_getRSSvalue 229 = .ok (.isub, 1) := by decide +kernel
theorem dX2_getRSSvalue_230 : decode cX2_getRSSvalue 230 = .ok (.imul, 1) := by decide +kernel
theorem dX2_getRSSvalue_231 : decode cX2_getRSSvalue 231 = .ok (.isub, 1) := by decide +kernel
theorem dX2_getRSSvalue_232 : decode cX2_getRSSvalue 232 = .ok (.istore 9, 2) := by decide +kernel
theorem dX2_getRSSvalue_234 : decode cX2_getRSSvalue 234 = .ok (.goto 14, 3) := by decide +kernel
theorem dX2_getRSSvalue_237 : decode cX2_getRSSvalue 237 = .ok (.iload_n 3, 1) := by decide +kernel
theorem dX2_getRSSvalue_238 : decode cX2_getRSSvalue 238 = .ok (.iload 8, 2) := by decide +kernel
theorem dX2_getRSSvalue_240 : decode cX2_getRSSvalue 240 = .ok (.isub, 1) := by decide +kernel
end
section
set_option maxRecDepth 100000
theorem dX2_getRSSvalue_241 : decode cX2_getRSSvalue 241 = .ok (.iload_n 1, 1) := by decide +kernel
theorem dX2_getRSSvalue_242 : decode cX2_getRSSvalue 242 = .ok (.if_icmp .le 6, 3) := by decide +kernel
theorem dX2_getRSSvalue_245 : decode cX2_getRSSvalue 245 = .ok (.iinc 9 (-1), 3) := by decide +kernel
theorem dX2_getRSSvalue_248 : decode cX2_getRSSvalue 248 = .ok (.iload 4, 2) := by decide +kernel
theorem dX2_getRSSvalue_250 : decode cX2_getRSSvalue 250 = .ok (.iload 9, 2) := by decide +kernel
theorem dX2_getRSSvalue_252 : decode cX2_getRSSvalue 252 = .ok (.iadd, 1) := by decide +kernel
theorem dX2_getRSSvalue_253 : decode cX2_getRSSvalue 253 = .ok (.istore 4, 2) := by decide +kernel
theorem dX2_getRSSvalue_255 : decode cX2_getRSSvalue 255 = .ok (.iinc 8 1, 3) := by decide +kernel
theorem dX2_getRSSvalue_258 : decode cX2_getRSSvalue 258 = .ok (.iload 5, 2) := by decide +kernel
theorem dX2_getRSSvalue_260 : decode cX2_getRSSvalue 260 = .ok (.iconst 1, 1) := by decide +kernel
theorem dX2_getRSSvalue_261 : decode cX2_getRSSvalue 261 = .ok (.iload 7, 2) := by decide +kernel
theorem dX2_getRSSvalue_263 : decode cX2_getRSSvalue 263 = .ok (.ishl, 1) := by decide +kernel
theorem dX2_getRSSvalue_264 : decode cX2_getRSSvalue 264 = .ok (.iconst (-1), 1) := by decide +kernel
theorem dX2_getRSSvalue_265 : decode cX2_getRSSvalue 265 = .ok (.ixor, 1) := by decide +kernel
theorem dX2_getRSSvalue_266 : decode cX2_getRSSvalue 266 = .ok (.iand, 1) := by decide +kernel
theorem dX2_getRSSvalue_267 : decode cX2_getRSSvalue 267 = .ok (.istore 5, 2) := by decide +kernel
theorem dX2_getRSSvalue_269 : decode cX2_getRSSvalue 269 = .ok (.goto (-197), 3) := by decide +kernel
theorem dX2_getRSSvalue_272 : decode cX2_getRSSvalue 272 = .ok (.iload_n 3, 1) := by decide +kernel
theorem dX2_getRSSvalue_273 : decode cX2_getRSSvalue 273 = .ok (.iload 8, 2) := by decide +kernel
theorem dX2_getRSSvalue_275 : decode cX2_getRSSvalue 275 = .ok (.isub, 1) := by decide +kernel
theorem dX2_getRSSvalue_276 : decode cX2_getRSSvalue 276 = .ok (.istore_n 3, 1) := by decide +kernel
theorem dX2_getRSSvalue_277 : decode cX2_getRSSvalue 277 = .ok (.iinc 7 1, 3) := by decide +kernel
theorem dX2_getRSSvalue_280 : decode cX2_getRSSvalue 280 = .ok (.goto (-229), 3) := by decide +kernel
theorem dX2_getRSSvalue_283 : decode cX2_getRSSvalue 283 = .ok (.iload 4, 2) := by decide +kernel
theorem dX2_getRSSvalue_285 : decode cX2_getRSSvalue 285 = .ok (.ireturn, 1) := by decide +kernel
theorem dX2_combins_0 : decode cX2_combins 0 = .ok (.iload_n 0, 1) := by decide +kernel
theorem dX2_combins_1 : decode cX2_combins 1 = .ok (.iload_n 1, 1) := by decide +kernel
theorem dX2_combins_2 : decode cX2_combins 2 = .ok (.isub, 1) := by decide +kernel
theorem dX2_combins_3 : decode cX2_combins 3 = .ok (.iload_n 1, 1) := by decide +kernel
theorem dX2_combins_4 : decode cX2_combins 4 = .ok (.if_icmp .le 12, 3) := by decide +kernel
theorem dX2_combins_7 : decode cX2_combins 7 = .ok (.iload_n 1, 1) := by decide +kernel
theorem dX2_combins_8 : decode cX2_combins 8 = .ok (.istore_n 3, 1) := by decide +kernel
theorem dX2_combins_9 : decode cX2_combins 9 = .ok (.iload_n 0, 1) := by decide +kernel
theorem dX2_combins_10 : decode cX2_combins 10 = .ok (.iload_n 1, 1) := by decide +kernel
theorem dX2_combins_11 : decode cX2_combins 11 = .ok (.isub, 1) := by decide +kernel
theorem dX2_combins_12 : decode cX2_combins 12 = .ok (.istore_n 2, 1) := by decide +kernel
theorem dX2_combins_13 : decode cX2_combins 13 = .ok (.goto 9, 3) := by decide +kernel
theorem dX2_combins_16 : decode cX2_combins 16 = .ok (.iload_n 0, 1) := by decide +kernel
theorem dX2_combins_17 : decode cX2_combins 17 = .ok (.iload_n 1, 1) := by decide +kernel
theorem dX2_combins_18 : decode cX2_combins 18 = .ok (.isub, 1) := by decide +kernel
theorem dX2_combins_19 : decode cX2_combins 19 = .ok (.istore_n 3, 1) := by decide +kernel
theorem dX2_combins_20 : decode cX2_combins 20 = .ok (.iload_n 1, 1) := by decide +kernel
theorem dX2_combins_21 : decode cX2_combins 21 = .ok (.istore_n 2, 1) := by decide +kernel
theorem dX2_combins_22 : decode cX2_combins 22 = .ok (.iconst 1, 1) := by decide +kernel
theorem dX2_combins_23 : decode cX2_combins 23 = .ok (.istore 4, 2) := by decide +kernel
theorem dX2_combins_25 : decode cX2_combins 25 = .ok (.iconst 1, 1) := by decide +kernel
theorem dX2_combins_26 : decode cX2_combins 26 = .ok (.istore 5, 2) := by decide +kernel
theorem dX2_combins_28 : decode cX2_combins 28 = .ok (.iload_n 0, 1) := by decide +kernel
theorem dX2_combins_29 : decode cX2_combins 29 = .ok (.istore 6, 2) := by decide +kernel
theorem dX2_combins_31 : decode cX2_combins 31 = .ok (.iload 6, 2) := by decide +kernel
theorem dX2_combins_33 : decode cX2_combins 33 = .ok (.iload_n 2, 1) := by decide +kernel
theorem dX2_combins_34 : decode cX2_combins 34 = .ok (.if_icmp .le 32, 3) := by decide +kernel
theorem dX2_combins_37 : decode cX2_combins 37 = .ok (.iload 4, 2) := by decide +kernel
theorem dX2_combins_39 : decode cX2_combins 39 = .ok (.iload 6, 2) := by decide +kernel
theorem dX2_combins_41 : decode cX2_combins 41 = .ok (.imul, 1) := by decide +kernel
theorem dX2_combins_42 : decode cX2_combins 42 = .ok (.istore 4, 2) := by decide +kernel
theorem dX2_combins_44 : decode cX2_combins 44 = .ok (.iload 5, 2) := by decide +kernel
theorem dX2_combins_46 : decode cX2_combins 46 = .ok (.iload_n 3, 1) := by decide +kernel
theorem dX2_combins_47 : decode cX2_combins 47 = .ok (.if_icmp .gt 13, 3) := by decide +kernel
theorem dX2_combins_50 : decode cX2_combins 50 = .ok (.iload 4, 2) := by decide +kernel
theorem dX2_combins_52 : decode cX2_combins 52 = .ok (.iload 5, 2) := by decide +kernel
theorem dX2_combins_54 : decode cX2_combins 54 = .ok (.idiv, 1) := by decide +kernel
theorem dX2_combins_55 : decode cX2_combins 55 = .ok (.istore 4, 2) := by decide +kernel
theorem dX2_combins_57 : decode cX2_combins 57 = .ok (.iinc 5 1, 3) := by decide +kernel
theorem dX2_combins_60 : decode cX2_combins 60 = .ok (.iinc 6 (-1), 3) := by decide +kernel
theorem dX2_combins_63 : decode cX2_combins 63 = .ok (.goto (-32), 3) := by decide +kernel
theorem dX2_combins_66 : decode cX2_combins 66 = .ok (.iload 5, 2) := by decide +kernel
theorem dX2_combins_68 : decode cX2_combins 68 = .ok (.iload_n 3, 1) := by decide +kernel
theorem dX2_combins_69 : decode cX2_combins 69 = .ok (.if_icmp .gt 16, 3) := by decide +kernel
theorem dX2_combins_72 : decode cX2_combins 72 = .ok (.iload 4, 2) := by decide +kernel
theorem dX2_combins_74 : decode cX2_combins 74 = .ok (.iload 5, 2) := by decide +kernel
theorem dX2_combins_76 : decode cX2_combins 76 = .ok (.idiv, 1) := by decide +kernel
theorem dX2_combins_77 : decode cX2_combins 77 = .ok (.istore 4, 2) := by decide +kernel
theorem dX2_combins_79 : decode cX2_combins 79 = .ok (.iinc 5 1, 3) := by decide +kernel
theorem dX2_combins_82 : decode cX2_combins 82 = .ok (.goto (-16), 3) := by decide +kernel
theorem dX2_combins_85 : decode cX2_combins 85 = .ok (.iload 4, 2) := by decide +kernel
theorem dX2_combins_87 : decode cX2_combins 87 = .ok (.ireturn, 1) := by decide +kernel
theorem dX1_init_0 : decode cX1_init 0 = .ok (.aload_n 0, 1) := by decide +kernel
theorem dX1_init_1 : decode cX1_init 1 = .ok (.invokespecial 1, 3) := by decide +kernel
theorem dX1_init_4 : decode cX1_init 4 = .ok (.aload_n 0, 1) := by decide +kernel
theorem dX1_init_5 : decode cX1_init 5 = .ok (.iconst 4, 1) := by decide +kernel
theorem dX1_init_6 : decode cX1_init 6 = .ok (.newarray .int, 2) := by decide +kernel
theorem dX1_init_8 : decode cX1_init 8 = .ok (.dup, 1) := by decide +kernel
theorem dX1_init_9 : decode cX1_init 9 = .ok (.iconst 0, 1) := by decide +kernel
theorem dX1_init_10 : decode cX1_init 10 = .ok (.iconst 1, 1) := by decide +kernel
theorem dX1_init_11 : decode cX1_init 11 = .ok (.iastore, 1) := by decide +kernel
theorem dX1_init_12 : decode cX1_init 12 = .ok (.dup, 1) := by decide +kernel
theorem dX1_init_13 : decode cX1_init 13 = .ok (.iconst 1, 1) := by decide +kernel
theorem dX1_init_14 : decode cX1_init 14 = .ok (.iconst 1, 1) := by decide +kernel
theorem dX1_init_15 : decode cX1_init 15 = .ok (.iastore, 1) := by decide +kernel
theorem dX1_init_16 : decode cX1_init 16 = .ok (.dup, 1) := by decide +kernel
theorem dX1_init_17 : decode cX1_init 17 = .ok (.iconst 2, 1) := by decide +kernel
theorem dX1_init_18 : decode cX1_init 18 = .ok (.iconst 1, 1) := by decide +kernel
theorem dX1_init_19 : decode cX1_init 19 = .ok (.iastore, 1) := by decide +kernel
theorem dX1_init_20 : decode cX1_init 20 = .ok (.dup, 1) := by decide +kernel
theorem dX1_init_21 : decode cX1_init 21 = .ok (.iconst 3, 1) := by decide +kernel
theorem dX1_init_22 : decode cX1_init 22 = .ok (.iconst 1, 1) := by decide +kernel
theorem dX1_init_23 : decode cX1_init 23 = .ok (.iastore, 1) := by decide +kernel
theorem dX1_init_24 : decode cX1_init 24 = .ok (.putfield 7, 3) := by decide +kernel
theorem dX1_init_27 : decode cX1_init 27 = .ok (.return_, 1) := by decide +kernel
theorem dX1_width_0 : decode cX1_width 0 = .ok (.aload_n 0, 1) := by decide +kernel
theorem dX1_width_1 : decode cX1_width 1 = .ok (.getfield 7, 3) := by decide +kernel
theorem dX1_width_4 : decode cX1_width 4 = .ok (.iload_n 1, 1) := by decide +kernel
theorem dX1_width_5 : decode cX1_width 5 = .ok (.iconst 3, 1) := by decide +kernel
theorem dX1_width_6 : decode cX1_width 6 = .ok (.iand, 1) := by decide +kernel
theorem dX1_width_7 : decode cX1_width 7 = .ok (.iconst 1, 1) := by decide +kernel
theorem dX1_width_8 : decode cX1_width 8 = .ok (.iload_n 2, 1) := by decide +kernel
theorem dX1_width_9 : decode cX1_width 9 = .ok (.bipush 7, 2) := by decide +kernel
theorem dX1_width_11 : decode cX1_width 11 = .ok (.iand, 1) := by decide +kernel
theorem dX1_width_12 : decode cX1_width 12 = .ok (.iadd, 1) := by decide +kernel
theorem dX1_width_13 : decode cX1_width 13 = .ok (.iastore, 1) := by decide +kernel
theorem dX1_width_14 : decode cX1_width 14 = .ok (.return_, 1) := by decide +kernel
theorem dX1_value_0 : decode cX1_value 0 = .ok (.aload_n 0, 1) := by decide +kernel
theorem dX1_value_1 : decode cX1_value 1 = .ok (.invokevirtual 13, 3) := by decide +kernel
theorem dX1_value_4 : decode cX1_value 4 = .ok (.istore_n 2, 1) := by decide +kernel
theorem dX1_value_5 : decode cX1_value 5 = .ok (.iload_n 2, 1) := by decide +kernel
theorem dX1_value_6 : decode cX1_value 6 = .ok (.iload_n 1, 1) := by decide +kernel
theorem dX1_value_7 : decode cX1_value 7 = .ok (.ldc 17, 2) := by decide +kernel
theorem dX1_value_9 : decode cX1_value 9 = .ok (.iand, 1) := by decide +kernel
theorem dX1_value_10 : decode cX1_value 10 = .ok (.bipush 9, 2) := by decide +kernel
theorem dX1_value_12 : decode cX1_value 12 = .ok (.iload_n 2, 1) := by decide +kernel
theorem dX1_value_13 : decode cX1_value 13 = .ok (.isub, 1) := by decide +kernel
theorem dX1_value_14 : decode cX1_value 14 = .ok (.irem, 1) := by decide +kernel
theorem dX1_value_15 : decode cX1_value 15 = .ok (.iadd, 1) := by decide +kernel
theorem dX1_value_16 : decode cX1_value 16 = .ok (.istore_n 3, 1) := by decide +kernel
theorem dX1_value_17 : decode cX1_value 17 = .ok (.aload_n 0, 1) := by decide +kernel
theorem dX1_value_18 : decode cX1_value 18 = .ok (.invokevirtual 18, 3) := by decide +kernel
theorem dX1_value_21 : decode cX1_value 21 = .ok (.iconst 2, 1) := by decide +kernel
theorem dX1_value_22 : decode cX1_value 22 = .ok (.iload_n 3, 1) := by decide +kernel
theorem dX1_value_23 : decode cX1_value 23 = .ok (.imul, 1) := by decide +kernel
theorem dX1_value_24 : decode cX1_value 24 = .ok (.iconst 4, 1) := by decide +kernel
theorem dX1_value_25 : decode cX1_value 25 = .ok (.iadd, 1) := by decide +kernel
theorem dX1_value_26 : decode cX1_value 26 = .ok (.if_icmp .ge 15, 3) := by decide +kernel
theorem dX1_value_29 : decode cX1_value 29 = .ok (.aload_n 0, 1) := by decide +kernel
theorem dX1_value_30 : decode cX1_value 30 = .ok (.getfield 7, 3) := by decide +kernel
theorem dX1_value_33 : decode cX1_value 33 = .ok (.iload_n 3, 1) := by decide +kernel
theorem dX1_value_34 : decode cX1_value 34 = .ok (.iconst 0, 1) := by decide +kernel
theorem dX1_value_35 : decode cX1_value 35 = .ok (.invokestatic 21, 3) := by decide +kernel
theorem dX1_value_38 : decode cX1_value 38 = .ok (.goto 4, 3) := by decide +kernel
theorem dX1_value_41 : decode cX1_value 41 = .ok (.iconst (-1), 1) := by decide +kernel
theorem dX1_value_42 : decode cX1_value 42 = .ok (.ireturn, 1) := by decide +kernel
theorem dX1_widest_0 : decode cX1_widest 0 = .ok (.iconst 0, 1) := by decide +kernel
theorem dX1_widest_1 : decode cX1_widest 1 = .ok (.istore_n 1, 1) := by decide +kernel
theorem dX1_widest_2 : decode cX1_widest 2 = .ok (.aload_n 0, 1) := by decide +kernel
theorem dX1_widest_3 : decode cX1_widest 3 = .ok (.getfield 7, 3) := by decide +kernel
theorem dX1_widest_6 : decode cX1_widest 6 = .ok (.astore_n 2, 1) := by decide +kernel
theorem dX1_widest_7 : decode cX1_widest 7 = .ok (.aload_n 2, 1) := by decide +kernel
theorem dX1_widest_8 : decode cX1_widest 8 = .ok (.arraylength, 1) := by decide +kernel
theorem dX1_widest_9 : decode cX1_widest 9 = .ok (.istore_n 3, 1) := by decide +kernel
theorem dX1_widest_10 : decode cX1_widest 10 = .ok (.iconst 0, 1) := by decide +kernel
end
section
set_option maxRecDepth 100000
theorem dX1_widest_11 : decode cX1_widest 11 = .ok (.istore 4, 2) := by decide +kernel
theorem dX1_widest_13 : decode cX1_widest 13 = .ok (.iload 4, 2) := by decide +kernel
theorem dX1_widest_15 : decode cX1_widest 15 = .ok (.iload_n 3, 1) := by decide +kernel
theorem dX1_widest_16 : decode cX1_widest 16 = .ok (.if_icmp .ge 28, 3) := by decide +kernel
theorem dX1_widest_19 : decode cX1_widest 19 = .ok (.aload_n 2, 1) := by decide +kernel
theorem dX1_widest_20 : decode cX1_widest 20 = .ok (.iload 4, 2) := by decide +kernel
theorem dX1_widest_22 : decode cX1_widest 22 = .ok (.iaload, 1) := by decide +kernel
theorem dX1_widest_23 : decode cX1_widest 23 = .ok (.istore 5, 2) := by decide +kernel
theorem dX1_widest_25 : decode cX1_widest 25 = .ok (.iload 5, 2) := by decide +kernel
theorem dX1_widest_27 : decode cX1_widest 27 = .ok (.iload_n 1, 1) := by decide +kernel
theorem dX1_widest_28 : decode cX1_widest 28 = .ok (.if_icmp .le 8, 3) := by decide +kernel
theorem dX1_widest_31 : decode cX1_widest 31 = .ok (.iload 5, 2) := by decide +kernel
theorem dX1_widest_33 : decode cX1_widest 33 = .ok (.goto 4, 3) := by decide +kernel
theorem dX1_widest_36 : decode cX1_widest 36 = .ok (.iload_n 1, 1) := by decide +kernel
theorem dX1_widest_37 : decode cX1_widest 37 = .ok (.istore_n 1, 1) := by decide +kernel
theorem dX1_widest_38 : decode cX1_widest 38 = .ok (.iinc 4 1, 3) := by decide +kernel
theorem dX1_widest_41 : decode cX1_widest 41 = .ok (.goto (-28), 3) := by decide +kernel
theorem dX1_widest_44 : decode cX1_widest 44 = .ok (.iload_n 1, 1) := by decide +kernel
theorem dX1_widest_45 : decode cX1_widest 45 = .ok (.ireturn, 1) := by decide +kernel
theorem dX1_sum_0 : decode cX1_sum 0 = .ok (.aload_n 0, 1) := by decide +kernel
theorem dX1_sum_1 : decode cX1_sum 1 = .ok (.getfield 7, 3) := by decide +kernel
theorem dX1_sum_4 : decode cX1_sum 4 = .ok (.iconst 0, 1) := by decide +kernel
theorem dX1_sum_5 : decode cX1_sum 5 = .ok (.iaload, 1) := by decide +kernel
theorem dX1_sum_6 : decode cX1_sum 6 = .ok (.aload_n 0, 1) := by decide +kernel
theorem dX1_sum_7 : decode cX1_sum 7 = .ok (.getfield 7, 3) := by decide +kernel
theorem dX1_sum_10 : decode cX1_sum 10 = .ok (.iconst 1, 1) := by decide +kernel
theorem dX1_sum_11 : decode cX1_sum 11 = .ok (.iaload, 1) := by decide +kernel
theorem dX1_sum_12 : decode cX1_sum 12 = .ok (.iadd, 1) := by decide +kernel
theorem dX1_sum_13 : decode cX1_sum 13 = .ok (.aload_n 0, 1) := by decide +kernel
theorem dX1_sum_14 : decode cX1_sum 14 = .ok (.getfield 7, 3) := by decide +kernel
theorem dX1_sum_17 : decode cX1_sum 17 = .ok (.iconst 2, 1) := by decide +kernel
theorem dX1_sum_18 : decode cX1_sum 18 = .ok (.iaload, 1) := by decide +kernel
theorem dX1_sum_19 : decode cX1_sum 19 = .ok (.iadd, 1) := by decide +kernel
theorem dX1_sum_20 : decode cX1_sum 20 = .ok (.aload_n 0, 1) := by decide +kernel
theorem dX1_sum_21 : decode cX1_sum 21 = .ok (.getfield 7, 3) := by decide +kernel
theorem dX1_sum_24 : decode cX1_sum 24 = .ok (.iconst 3, 1) := by decide +kernel
theorem dX1_sum_25 : decode cX1_sum 25 = .ok (.iaload, 1) := by decide +kernel
theorem dX1_sum_26 : decode cX1_sum 26 = .ok (.iadd, 1) := by decide +kernel
theorem dX1_sum_27 : decode cX1_sum 27 = .ok (.ireturn, 1) := by decide +kernel
theorem dX1_withNarrow_0 : decode cX1_withNarrow 0 = .ok (.aload_n 0, 1) := by decide +kernel
theorem dX1_withNarrow_1 : decode cX1_withNarrow 1 = .ok (.invokevirtual 13, 3) := by decide +kernel
theorem dX1_withNarrow_4 : decode cX1_withNarrow 4 = .ok (.istore_n 2, 1) := by decide +kernel
theorem dX1_withNarrow_5 : decode cX1_withNarrow 5 = .ok (.iload_n 2, 1) := by decide +kernel
theorem dX1_withNarrow_6 : decode cX1_withNarrow 6 = .ok (.iload_n 1, 1) := by decide +kernel
theorem dX1_withNarrow_7 : decode cX1_withNarrow 7 = .ok (.ldc 17, 2) := by decide +kernel
theorem dX1_withNarrow_9 : decode cX1_withNarrow 9 = .ok (.iand, 1) := by decide +kernel
theorem dX1_withNarrow_10 : decode cX1_withNarrow 10 = .ok (.bipush 9, 2) := by decide +kernel
theorem dX1_withNarrow_12 : decode cX1_withNarrow 12 = .ok (.iload_n 2, 1) := by decide +kernel
theorem dX1_withNarrow_13 : decode cX1_withNarrow 13 = .ok (.isub, 1) := by decide +kernel
theorem dX1_withNarrow_14 : decode cX1_withNarrow 14 = .ok (.irem, 1) := by decide +kernel
theorem dX1_withNarrow_15 : decode cX1_withNarrow 15 = .ok (.iadd, 1) := by decide +kernel
theorem dX1_withNarrow_16 : decode cX1_withNarrow 16 = .ok (.istore_n 3, 1) := by decide +kernel
theorem dX1_withNarrow_17 : decode cX1_withNarrow 17 = .ok (.aload_n 0, 1) := by decide +kernel
theorem dX1_withNarrow_18 : decode cX1_withNarrow 18 = .ok (.invokevirtual 27, 3) := by decide +kernel
theorem dX1_withNarrow_21 : decode cX1_withNarrow 21 = .ok (.ifCond .eq 38, 3) := by decide +kernel
theorem dX1_withNarrow_24 : decode cX1_withNarrow 24 = .ok (.aload_n 0, 1) := by decide +kernel
theorem dX1_withNarrow_25 : decode cX1_withNarrow 25 = .ok (.invokevirtual 18, 3) := by decide +kernel
theorem dX1_withNarrow_28 : decode cX1_withNarrow 28 = .ok (.iload_n 3, 1) := by decide +kernel
theorem dX1_withNarrow_29 : decode cX1_withNarrow 29 = .ok (.bipush 7, 2) := by decide +kernel
theorem dX1_withNarrow_31 : decode cX1_withNarrow 31 = .ok (.iadd, 1) := by decide +kernel
theorem dX1_withNarrow_32 : decode cX1_withNarrow 32 = .ok (.if_icmp .ge 27, 3) := by decide +kernel
theorem dX1_withNarrow_35 : decode cX1_withNarrow 35 = .ok (.aload_n 0, 1) := by decide +kernel
theorem dX1_withNarrow_36 : decode cX1_withNarrow 36 = .ok (.invokevirtual 18, 3) := by decide +kernel
theorem dX1_withNarrow_39 : decode cX1_withNarrow 39 = .ok (.iconst 2, 1) := by decide +kernel
theorem dX1_withNarrow_40 : decode cX1_withNarrow 40 = .ok (.iload_n 3, 1) := by decide +kernel
theorem dX1_withNarrow_41 : decode cX1_withNarrow 41 = .ok (.imul, 1) := by decide +kernel
theorem dX1_withNarrow_42 : decode cX1_withNarrow 42 = .ok (.iconst 4, 1) := by decide +kernel
theorem dX1_withNarrow_43 : decode cX1_withNarrow 43 = .ok (.iadd, 1) := by decide +kernel
theorem dX1_withNarrow_44 : decode cX1_withNarrow 44 = .ok (.if_icmp .ge 15, 3) := by decide +kernel
theorem dX1_withNarrow_47 : decode cX1_withNarrow 47 = .ok (.aload_n 0, 1) := by decide +kernel
theorem dX1_withNarrow_48 : decode cX1_withNarrow 48 = .ok (.getfield 7, 3) := by decide +kernel
theorem dX1_withNarrow_51 : decode cX1_withNarrow 51 = .ok (.iload_n 3, 1) := by decide +kernel
theorem dX1_withNarrow_52 : decode cX1_withNarrow 52 = .ok (.iconst 1, 1) := by decide +kernel
theorem dX1_withNarrow_53 : decode cX1_withNarrow 53 = .ok (.invokestatic 21, 3) := by decide +kernel
theorem dX1_withNarrow_56 : decode cX1_withNarrow 56 = .ok (.goto 4, 3) := by decide +kernel
theorem dX1_withNarrow_59 : decode cX1_withNarrow 59 = .ok (.iconst (-1), 1) := by decide +kernel
theorem dX1_withNarrow_60 : decode cX1_withNarrow 60 = .ok (.ireturn, 1) := by decide +kernel
theorem dX1_narrow_0 : decode cX1_narrow 0 = .ok (.aload_n 0, 1) := by decide +kernel
theorem dX1_narrow_1 : decode cX1_narrow 1 = .ok (.getfield 7, 3) := by decide +kernel
theorem dX1_narrow_4 : decode cX1_narrow 4 = .ok (.astore_n 1, 1) := by decide +kernel
theorem dX1_narrow_5 : decode cX1_narrow 5 = .ok (.aload_n 1, 1) := by decide +kernel
theorem dX1_narrow_6 : decode cX1_narrow 6 = .ok (.arraylength, 1) := by decide +kernel
theorem dX1_narrow_7 : decode cX1_narrow 7 = .ok (.istore_n 2, 1) := by decide +kernel
theorem dX1_narrow_8 : decode cX1_narrow 8 = .ok (.iconst 0, 1) := by decide +kernel
theorem dX1_narrow_9 : decode cX1_narrow 9 = .ok (.istore_n 3, 1) := by decide +kernel
theorem dX1_narrow_10 : decode cX1_narrow 10 = .ok (.iload_n 3, 1) := by decide +kernel
theorem dX1_narrow_11 : decode cX1_narrow 11 = .ok (.iload_n 2, 1) := by decide +kernel
theorem dX1_narrow_12 : decode cX1_narrow 12 = .ok (.if_icmp .ge 22, 3) := by decide +kernel
theorem dX1_narrow_15 : decode cX1_narrow 15 = .ok (.aload_n 1, 1) := by decide +kernel
theorem dX1_narrow_16 : decode cX1_narrow 16 = .ok (.iload_n 3, 1) := by decide +kernel
theorem dX1_narrow_17 : decode cX1_narrow 17 = .ok (.iaload, 1) := by decide +kernel
theorem dX1_narrow_18 : decode cX1_narrow 18 = .ok (.istore 4, 2) := by decide +kernel
theorem dX1_narrow_20 : decode cX1_narrow 20 = .ok (.iload 4, 2) := by decide +kernel
theorem dX1_narrow_22 : decode cX1_narrow 22 = .ok (.iconst 1, 1) := by decide +kernel
theorem dX1_narrow_23 : decode cX1_narrow 23 = .ok (.if_icmp .ne 5, 3) := by decide +kernel
theorem dX1_narrow_26 : decode cX1_narrow 26 = .ok (.iconst 1, 1) := by decide +kernel
theorem dX1_narrow_27 : decode cX1_narrow 27 = .ok (.ireturn, 1) := by decide +kernel
theorem dX1_narrow_28 : decode cX1_narrow 28 = .ok (.iinc 3 1, 3) := by decide +kernel
theorem dX1_narrow_31 : decode cX1_narrow 31 = .ok (.goto (-21), 3) := by decide +kernel
theorem dX1_narrow_34 : decode cX1_narrow 34 = .ok (.iconst 0, 1) := by decide +kernel
theorem dX1_narrow_35 : decode cX1_narrow 35 = .ok (.ireturn, 1) := by decide +kernel
theorem dX1_width_2_0 : decode cX1_width_2 0 = .ok (.aload_n 0, 1) := by decide +kernel
theorem dX1_width_2_1 : decode cX1_width_2 1 = .ok (.getfield 7, 3) := by decide +kernel
theorem dX1_width_2_4 : decode cX1_width_2 4 = .ok (.iload_n 1, 1) := by decide +kernel
theorem dX1_width_2_5 : decode cX1_width_2 5 = .ok (.iconst 3, 1) := by decide +kernel
theorem dX1_width_2_6 : decode cX1_width_2 6 = .ok (.iand, 1) := by decide +kernel
theorem dX1_width_2_7 : decode cX1_width_2 7 = .ok (.iaload, 1) := by decide +kernel
theorem dX1_width_2_8 : decode cX1_width_2 8 = .ok (.ireturn, 1) := by decide +kernel
theorem dX1_widths_0 : decode cX1_widths 0 = .ok (.aload_n 0, 1) := by decide +kernel
theorem dX1_widths_1 : decode cX1_widths 1 = .ok (.getfield 7, 3) := by decide +kernel
theorem dX1_widths_4 : decode cX1_widths 4 = .ok (.iconst 0, 1) := by decide +kernel
theorem dX1_widths_5 : decode cX1_widths 5 = .ok (.iconst 1, 1) := by decide +kernel
theorem dX1_widths_6 : decode cX1_widths 6 = .ok (.iload_n 1, 1) := by decide +kernel
theorem dX1_widths_7 : decode cX1_widths 7 = .ok (.bipush 7, 2) := by decide +kernel
theorem dX1_widths_9 : decode cX1_widths 9 = .ok (.iand, 1) := by decide +kernel
theorem dX1_widths_10 : decode cX1_widths 10 = .ok (.iadd, 1) := by decide +kernel
theorem dX1_widths_11 : decode cX1_widths 11 = .ok (.iastore, 1) := by decide +kernel
theorem dX1_widths_12 : decode cX1_widths 12 = .ok (.aload_n 0, 1) := by decide +kernel
theorem dX1_widths_13 : decode cX1_widths 13 = .ok (.getfield 7, 3) := by decide +kernel
theorem dX1_widths_16 : decode cX1_widths 16 = .ok (.iconst 1, 1) := by decide +kernel
theorem dX1_widths_17 : decode cX1_widths 17 = .ok (.iconst 1, 1) := by decide +kernel
theorem dX1_widths_18 : decode cX1_widths 18 = .ok (.iload_n 2, 1) := by decide +kernel
theorem dX1_widths_19 : decode cX1_widths 19 = .ok (.bipush 7, 2) := by decide +kernel
theorem dX1_widths_21 : decode cX1_widths 21 = .ok (.iand, 1) := by decide +kernel
theorem dX1_widths_22 : decode cX1_widths 22 = .ok (.iadd, 1) := by decide +kernel
theorem dX1_widths_23 : decode cX1_widths 23 = .ok (.iastore, 1) := by decide +kernel
theorem dX1_widths_24 : decode cX1_widths 24 = .ok (.aload_n 0, 1) := by decide +kernel
theorem dX1_widths_25 : decode cX1_widths 25 = .ok (.getfield 7, 3) := by decide +kernel
theorem dX1_widths_28 : decode cX1_widths 28 = .ok (.iconst 2, 1) := by decide +kernel
theorem dX1_widths_29 : decode cX1_widths 29 = .ok (.iconst 1, 1) := by decide +kernel
theorem dX1_widths_30 : decode cX1_widths 30 = .ok (.iload_n 3, 1) := by decide +kernel
theorem dX1_widths_31 : decode cX1_widths 31 = .ok (.bipush 7, 2) := by decide +kernel
theorem dX1_widths_33 : decode cX1_widths 33 = .ok (.iand, 1) := by decide +kernel
theorem dX1_widths_34 : decode cX1_widths 34 = .ok (.iadd, 1) := by decide +kernel
theorem dX1_widths_35 : decode cX1_widths 35 = .ok (.iastore, 1) := by decide +kernel
theorem dX1_widths_36 : decode cX1_widths 36 = .ok (.aload_n 0, 1) := by decide +kernel
theorem dX1_widths_37 : decode cX1_widths 37 = .ok (.getfield 7, 3) := by decide +kernel
theorem dX1_widths_40 : decode cX1_widths 40 = .ok (.iconst 3, 1) := by decide +kernel
theorem dX1_widths_41 : decode cX1_widths 41 = .ok (.iconst 1, 1) := by decide +kernel
theorem dX1_widths_42 : decode cX1_widths 42 = .ok (.iload 4, 2) := by decide +kernel
theorem dX1_widths_44 : decode cX1_widths 44 = .ok (.bipush 7, 2) := by decide +kernel
theorem dX1_widths_46 : decode cX1_widths 46 = .ok (.iand, 1) := by decide +kernel
theorem dX1_widths_47 : decode cX1_widths 47 = .ok (.iadd, 1) := by decide +kernel
theorem dX1_widths_48 : decode cX1_widths 48 = .ok (.iastore, 1) := by decide +kernel
theorem dX1_widths_49 : decode cX1_widths 49 = .ok (.return_, 1) := by decide +kernel
theorem dX0_cell_0 : decode cX0_cell 0 = .ok (.iload_n 1, 1) := by decide +kernel
theorem dX0_cell_1 : decode cX0_cell 1 = .ok (.aload_n 0, 1) := by decide +kernel
theorem dX0_cell_2 : decode cX0_cell 2 = .ok (.arraylength, 1) := by decide +kernel
theorem dX0_cell_3 : decode cX0_cell 3 = .ok (.if_icmp .ge 9, 3) := by decide +kernel
theorem dX0_cell_6 : decode cX0_cell 6 = .ok (.aload_n 0, 1) := by decide +kernel
end
section
set_option maxRecDepth 100000
theorem dX0_cell_7 : decode cX0_cell 7 = .ok (.iload_n 1, 1) := by decide +kernel
theorem dX0_cell_8 : decode cX0_cell 8 = .ok (.iaload, 1) := by decide +kernel
theorem dX0_cell_9 : decode cX0_cell 9 = .ok (.goto 4, 3) := by decide +kernel
theorem dX0_cell_12 : decode cX0_cell 12 = .ok (.iconst 0, 1) := by decide +kernel
theorem dX0_cell_13 : decode cX0_cell 13 = .ok (.ireturn, 1) := by decide +kernel
theorem dX0_values_0 : decode cX0_values 0 = .ok (.aload_n 1, 1) := by decide +kernel
theorem dX0_values_1 : decode cX0_values 1 = .ok (.iload_n 2, 1) := by decide +kernel
theorem dX0_values_2 : decode cX0_values 2 = .ok (.invokestatic 21, 3) := by decide +kernel
theorem dX0_values_5 : decode cX0_values 5 = .ok (.istore_n 3, 1) := by decide +kernel
theorem dX0_values_6 : decode cX0_values 6 = .ok (.aload_n 1, 1) := by decide +kernel
theorem dX0_values_7 : decode cX0_values 7 = .ok (.invokestatic 7, 3) := by decide +kernel
theorem dX0_values_10 : decode cX0_values 10 = .ok (.istore 4, 2) := by decide +kernel
theorem dX0_values_12 : decode cX0_values 12 = .ok (.iload 4, 2) := by decide +kernel
theorem dX0_values_14 : decode cX0_values 14 = .ok (.iconst 2, 1) := by decide +kernel
theorem dX0_values_15 : decode cX0_values 15 = .ok (.iload_n 3, 1) := by decide +kernel
theorem dX0_values_16 : decode cX0_values 16 = .ok (.imul, 1) := by decide +kernel
theorem dX0_values_17 : decode cX0_values 17 = .ok (.iconst 4, 1) := by decide +kernel
theorem dX0_values_18 : decode cX0_values 18 = .ok (.iadd, 1) := by decide +kernel
theorem dX0_values_19 : decode cX0_values 19 = .ok (.if_icmp .ge 7, 3) := by decide +kernel
theorem dX0_values_22 : decode cX0_values 22 = .ok (.iconst 1, 1) := by decide +kernel
theorem dX0_values_23 : decode cX0_values 23 = .ok (.goto 4, 3) := by decide +kernel
theorem dX0_values_26 : decode cX0_values 26 = .ok (.iconst 0, 1) := by decide +kernel
theorem dX0_values_27 : decode cX0_values 27 = .ok (.istore 5, 2) := by decide +kernel
theorem dX0_values_29 : decode cX0_values 29 = .ok (.iload 5, 2) := by decide +kernel
theorem dX0_values_31 : decode cX0_values 31 = .ok (.ifCond .eq 34, 3) := by decide +kernel
theorem dX0_values_34 : decode cX0_values 34 = .ok (.iload 4, 2) := by decide +kernel
theorem dX0_values_36 : decode cX0_values 36 = .ok (.iload_n 3, 1) := by decide +kernel
theorem dX0_values_37 : decode cX0_values 37 = .ok (.bipush 7, 2) := by decide +kernel
theorem dX0_values_39 : decode cX0_values 39 = .ok (.iadd, 1) := by decide +kernel
theorem dX0_values_40 : decode cX0_values 40 = .ok (.if_icmp .ge 25, 3) := by decide +kernel
theorem dX0_values_43 : decode cX0_values 43 = .ok (.aload_n 1, 1) := by decide +kernel
theorem dX0_values_44 : decode cX0_values 44 = .ok (.iconst 0, 1) := by decide +kernel
theorem dX0_values_45 : decode cX0_values 45 = .ok (.iaload, 1) := by decide +kernel
theorem dX0_values_46 : decode cX0_values 46 = .ok (.aload_n 1, 1) := by decide +kernel
theorem dX0_values_47 : decode cX0_values 47 = .ok (.iconst 1, 1) := by decide +kernel
theorem dX0_values_48 : decode cX0_values 48 = .ok (.iaload, 1) := by decide +kernel
theorem dX0_values_49 : decode cX0_values 49 = .ok (.aload_n 1, 1) := by decide +kernel
theorem dX0_values_50 : decode cX0_values 50 = .ok (.iconst 2, 1) := by decide +kernel
theorem dX0_values_51 : decode cX0_values 51 = .ok (.iaload, 1) := by decide +kernel
theorem dX0_values_52 : decode cX0_values 52 = .ok (.aload_n 1, 1) := by decide +kernel
theorem dX0_values_53 : decode cX0_values 53 = .ok (.iconst 3, 1) := by decide +kernel
theorem dX0_values_54 : decode cX0_values 54 = .ok (.iaload, 1) := by decide +kernel
theorem dX0_values_55 : decode cX0_values 55 = .ok (.invokestatic 13, 3) := by decide +kernel
theorem dX0_values_58 : decode cX0_values 58 = .ok (.ifCond .eq 7, 3) := by decide +kernel
theorem dX0_values_61 : decode cX0_values 61 = .ok (.iconst 1, 1) := by decide +kernel
theorem dX0_values_62 : decode cX0_values 62 = .ok (.goto 4, 3) := by decide +kernel
theorem dX0_values_65 : decode cX0_values 65 = .ok (.iconst 0, 1) := by decide +kernel
theorem dX0_values_66 : decode cX0_values 66 = .ok (.istore 6, 2) := by decide +kernel
theorem dX0_values_68 : decode cX0_values 68 = .ok (.iload 5, 2) := by decide +kernel
theorem dX0_values_70 : decode cX0_values 70 = .ok (.ifCond .eq 12, 3) := by decide +kernel
theorem dX0_values_73 : decode cX0_values 73 = .ok (.aload_n 1, 1) := by decide +kernel
theorem dX0_values_74 : decode cX0_values 74 = .ok (.iload_n 3, 1) := by decide +kernel
theorem dX0_values_75 : decode cX0_values 75 = .ok (.iconst 0, 1) := by decide +kernel
theorem dX0_values_76 : decode cX0_values 76 = .ok (.invokestatic 25, 3) := by decide +kernel
theorem dX0_values_79 : decode cX0_values 79 = .ok (.goto 4, 3) := by decide +kernel
theorem dX0_values_82 : decode cX0_values 82 = .ok (.iconst (-1), 1) := by decide +kernel
theorem dX0_values_83 : decode cX0_values 83 = .ok (.istore 7, 2) := by decide +kernel
theorem dX0_values_85 : decode cX0_values 85 = .ok (.iload 6, 2) := by decide +kernel
theorem dX0_values_87 : decode cX0_values 87 = .ok (.ifCond .eq 12, 3) := by decide +kernel
theorem dX0_values_90 : decode cX0_values 90 = .ok (.aload_n 1, 1) := by decide +kernel
theorem dX0_values_91 : decode cX0_values 91 = .ok (.iload_n 3, 1) := by decide +kernel
theorem dX0_values_92 : decode cX0_values 92 = .ok (.iconst 1, 1) := by decide +kernel
theorem dX0_values_93 : decode cX0_values 93 = .ok (.invokestatic 25, 3) := by decide +kernel
theorem dX0_values_96 : decode cX0_values 96 = .ok (.goto 4, 3) := by decide +kernel
theorem dX0_values_99 : decode cX0_values 99 = .ok (.iconst (-1), 1) := by decide +kernel
theorem dX0_values_100 : decode cX0_values 100 = .ok (.istore 8, 2) := by decide +kernel
theorem dX0_values_102 : decode cX0_values 102 = .ok (.aload_n 0, 1) := by decide +kernel
theorem dX0_values_103 : decode cX0_values 103 = .ok (.iload_n 2, 1) := by decide +kernel
theorem dX0_values_104 : decode cX0_values 104 = .ok (.invokevirtual 29, 3) := by decide +kernel
theorem dX0_values_107 : decode cX0_values 107 = .ok (.iload 7, 2) := by decide +kernel
theorem dX0_values_109 : decode cX0_values 109 = .ok (.if_icmp .ne 37, 3) := by decide +kernel
theorem dX0_values_112 : decode cX0_values 112 = .ok (.aload_n 0, 1) := by decide +kernel
theorem dX0_values_113 : decode cX0_values 113 = .ok (.iload_n 2, 1) := by decide +kernel
theorem dX0_values_114 : decode cX0_values 114 = .ok (.invokevirtual 35, 3) := by decide +kernel
theorem dX0_values_117 : decode cX0_values 117 = .ok (.iload 8, 2) := by decide +kernel
theorem dX0_values_119 : decode cX0_values 119 = .ok (.if_icmp .ne 27, 3) := by decide +kernel
theorem dX0_values_122 : decode cX0_values 122 = .ok (.aload_n 0, 1) := by decide +kernel
theorem dX0_values_123 : decode cX0_values 123 = .ok (.iload_n 2, 1) := by decide +kernel
theorem dX0_values_124 : decode cX0_values 124 = .ok (.invokevirtual 29, 3) := by decide +kernel
theorem dX0_values_127 : decode cX0_values 127 = .ok (.iload 7, 2) := by decide +kernel
theorem dX0_values_129 : decode cX0_values 129 = .ok (.if_icmp .ne 17, 3) := by decide +kernel
theorem dX0_values_132 : decode cX0_values 132 = .ok (.aload_n 0, 1) := by decide +kernel
theorem dX0_values_133 : decode cX0_values 133 = .ok (.iload_n 2, 1) := by decide +kernel
theorem dX0_values_134 : decode cX0_values 134 = .ok (.invokevirtual 35, 3) := by decide +kernel
theorem dX0_values_137 : decode cX0_values 137 = .ok (.iload 8, 2) := by decide +kernel
theorem dX0_values_139 : decode cX0_values 139 = .ok (.if_icmp .ne 7, 3) := by decide +kernel
theorem dX0_values_142 : decode cX0_values 142 = .ok (.iconst 1, 1) := by decide +kernel
theorem dX0_values_143 : decode cX0_values 143 = .ok (.goto 4, 3) := by decide +kernel
theorem dX0_values_146 : decode cX0_values 146 = .ok (.iconst 0, 1) := by decide +kernel
theorem dX0_values_147 : decode cX0_values 147 = .ok (.ireturn, 1) := by decide +kernel
theorem dX0_most_0 : decode cX0_most 0 = .ok (.aload_n 0, 1) := by decide +kernel
theorem dX0_most_1 : decode cX0_most 1 = .ok (.invokestatic 17, 3) := by decide +kernel
theorem dX0_most_4 : decode cX0_most 4 = .ok (.iload_n 1, 1) := by decide +kernel
theorem dX0_most_5 : decode cX0_most 5 = .ok (.ldc 20, 2) := by decide +kernel
theorem dX0_most_7 : decode cX0_most 7 = .ok (.iand, 1) := by decide +kernel
theorem dX0_most_8 : decode cX0_most 8 = .ok (.bipush 9, 2) := by decide +kernel
theorem dX0_most_10 : decode cX0_most 10 = .ok (.aload_n 0, 1) := by decide +kernel
theorem dX0_most_11 : decode cX0_most 11 = .ok (.invokestatic 17, 3) := by decide +kernel
theorem dX0_most_14 : decode cX0_most 14 = .ok (.isub, 1) := by decide +kernel
theorem dX0_most_15 : decode cX0_most 15 = .ok (.irem, 1) := by decide +kernel
theorem dX0_most_16 : decode cX0_most 16 = .ok (.iadd, 1) := by decide +kernel
theorem dX0_most_17 : decode cX0_most 17 = .ok (.ireturn, 1) := by decide +kernel
theorem dX0_widest_0 : decode cX0_widest 0 = .ok (.iconst 0, 1) := by decide +kernel
theorem dX0_widest_1 : decode cX0_widest 1 = .ok (.istore_n 1, 1) := by decide +kernel
theorem dX0_widest_2 : decode cX0_widest 2 = .ok (.aload_n 0, 1) := by decide +kernel
theorem dX0_widest_3 : decode cX0_widest 3 = .ok (.astore_n 2, 1) := by decide +kernel
theorem dX0_widest_4 : decode cX0_widest 4 = .ok (.aload_n 2, 1) := by decide +kernel
theorem dX0_widest_5 : decode cX0_widest 5 = .ok (.arraylength, 1) := by decide +kernel
theorem dX0_widest_6 : decode cX0_widest 6 = .ok (.istore_n 3, 1) := by decide +kernel
theorem dX0_widest_7 : decode cX0_widest 7 = .ok (.iconst 0, 1) := by decide +kernel
theorem dX0_widest_8 : decode cX0_widest 8 = .ok (.istore 4, 2) := by decide +kernel
theorem dX0_widest_10 : decode cX0_widest 10 = .ok (.iload 4, 2) := by decide +kernel
theorem dX0_widest_12 : decode cX0_widest 12 = .ok (.iload_n 3, 1) := by decide +kernel
theorem dX0_widest_13 : decode cX0_widest 13 = .ok (.if_icmp .ge 28, 3) := by decide +kernel
theorem dX0_widest_16 : decode cX0_widest 16 = .ok (.aload_n 2, 1) := by decide +kernel
theorem dX0_widest_17 : decode cX0_widest 17 = .ok (.iload 4, 2) := by decide +kernel
theorem dX0_widest_19 : decode cX0_widest 19 = .ok (.iaload, 1) := by decide +kernel
theorem dX0_widest_20 : decode cX0_widest 20 = .ok (.istore 5, 2) := by decide +kernel
theorem dX0_widest_22 : decode cX0_widest 22 = .ok (.iload 5, 2) := by decide +kernel
theorem dX0_widest_24 : decode cX0_widest 24 = .ok (.iload_n 1, 1) := by decide +kernel
theorem dX0_widest_25 : decode cX0_widest 25 = .ok (.if_icmp .le 8, 3) := by decide +kernel
theorem dX0_widest_28 : decode cX0_widest 28 = .ok (.iload 5, 2) := by decide +kernel
theorem dX0_widest_30 : decode cX0_widest 30 = .ok (.goto 4, 3) := by decide +kernel
theorem dX0_widest_33 : decode cX0_widest 33 = .ok (.iload_n 1, 1) := by decide +kernel
theorem dX0_widest_34 : decode cX0_widest 34 = .ok (.istore_n 1, 1) := by decide +kernel
theorem dX0_widest_35 : decode cX0_widest 35 = .ok (.iinc 4 1, 3) := by decide +kernel
theorem dX0_widest_38 : decode cX0_widest 38 = .ok (.goto (-28), 3) := by decide +kernel
theorem dX0_widest_41 : decode cX0_widest 41 = .ok (.iload_n 1, 1) := by decide +kernel
theorem dX0_widest_42 : decode cX0_widest 42 = .ok (.ireturn, 1) := by decide +kernel
theorem dX0_sum_0 : decode cX0_sum 0 = .ok (.aload_n 0, 1) := by decide +kernel
theorem dX0_sum_1 : decode cX0_sum 1 = .ok (.iconst 0, 1) := by decide +kernel
theorem dX0_sum_2 : decode cX0_sum 2 = .ok (.iaload, 1) := by decide +kernel
theorem dX0_sum_3 : decode cX0_sum 3 = .ok (.aload_n 0, 1) := by decide +kernel
theorem dX0_sum_4 : decode cX0_sum 4 = .ok (.iconst 1, 1) := by decide +kernel
theorem dX0_sum_5 : decode cX0_sum 5 = .ok (.iaload, 1) := by decide +kernel
theorem dX0_sum_6 : decode cX0_sum 6 = .ok (.iadd, 1) := by decide +kernel
theorem dX0_sum_7 : decode cX0_sum 7 = .ok (.aload_n 0, 1) := by decide +kernel
theorem dX0_sum_8 : decode cX0_sum 8 = .ok (.iconst 2, 1) := by decide +kernel
theorem dX0_sum_9 : decode cX0_sum 9 = .ok (.iaload, 1) := by decide +kernel
theorem dX0_sum_10 : decode cX0_sum 10 = .ok (.iadd, 1) := by decide +kernel
theorem dX0_sum_11 : decode cX0_sum 11 = .ok (.aload_n 0, 1) := by decide +kernel
theorem dX0_sum_12 : decode cX0_sum 12 = .ok (.iconst 3, 1) := by decide +kernel
theorem dX0_sum_13 : decode cX0_sum 13 = .ok (.iaload, 1) := by decide +kernel
theorem dX0_sum_14 : decode cX0_sum 14 = .ok (.iadd, 1) := by decide +kernel
theorem dX0_sum_15 : decode cX0_sum 15 = .ok (.ireturn, 1) := by decide +kernel
theorem dX0_narrow_0 : decode cX0_narrow 0 = .ok (.iload_n 0, 1) := by decide +kernel
theorem dX0_narrow_1 : decode cX0_narrow 1 = .ok (.iconst 1, 1) := by decide +kernel
theorem dX0_narrow_2 : decode cX0_narrow 2 = .ok (.if_icmp .eq 18, 3) := by decide +kernel
theorem dX0_narrow_5 : decode cX0_narrow 5 = .ok (.iload_n 1, 1) := by decide +kernel
theorem dX0_narrow_6 : decode cX0_narrow 6 = .ok (.iconst 1, 1) := by decide +kernel
end
section
set_option maxRecDepth 100000
theorem dX0_narrow_7 : decode cX0_narrow 7 = .ok (.if_icmp .eq 13, 3) := by decide +kernel
theorem dX0_narrow_10 : decode cX0_narrow 10 = .ok (.iload_n 2, 1) := by decide +kernel
theorem dX0_narrow_11 : decode cX0_narrow 11 = .ok (.iconst 1, 1) := by decide +kernel
theorem dX0_narrow_12 : decode cX0_narrow 12 = .ok (.if_icmp .eq 8, 3) := by decide +kernel
theorem dX0_narrow_15 : decode cX0_narrow 15 = .ok (.iload_n 3, 1) := by decide +kernel
theorem dX0_narrow_16 : decode cX0_narrow 16 = .ok (.iconst 1, 1) := by decide +kernel
theorem dX0_narrow_17 : decode cX0_narrow 17 = .ok (.if_icmp .ne 7, 3) := by decide +kernel
theorem dX0_narrow_20 : decode cX0_narrow 20 = .ok (.iconst 1, 1) := by decide +kernel
theorem dX0_narrow_21 : decode cX0_narrow 21 = .ok (.goto 4, 3) := by decide +kernel
theorem dX0_narrow_24 : decode cX0_narrow 24 = .ok (.iconst 0, 1) := by decide +kernel
theorem dX0_narrow_25 : decode cX0_narrow 25 = .ok (.ireturn, 1) := by decide +kernel
theorem dX0_ahead_0 : decode cX0_ahead 0 = .ok (.iconst 0, 1) := by decide +kernel
theorem dX0_ahead_1 : decode cX0_ahead 1 = .ok (.istore_n 3, 1) := by decide +kernel
theorem dX0_ahead_2 : decode cX0_ahead 2 = .ok (.iconst 1, 1) := by decide +kernel
theorem dX0_ahead_3 : decode cX0_ahead 3 = .ok (.istore 4, 2) := by decide +kernel
theorem dX0_ahead_5 : decode cX0_ahead 5 = .ok (.iload 4, 2) := by decide +kernel
theorem dX0_ahead_7 : decode cX0_ahead 7 = .ok (.aload_n 0, 1) := by decide +kernel
theorem dX0_ahead_8 : decode cX0_ahead 8 = .ok (.iconst 0, 1) := by decide +kernel
theorem dX0_ahead_9 : decode cX0_ahead 9 = .ok (.iaload, 1) := by decide +kernel
theorem dX0_ahead_10 : decode cX0_ahead 10 = .ok (.if_icmp .gt 137, 3) := by decide +kernel
theorem dX0_ahead_13 : decode cX0_ahead 13 = .ok (.iconst 1, 1) := by decide +kernel
theorem dX0_ahead_14 : decode cX0_ahead 14 = .ok (.istore 5, 2) := by decide +kernel
theorem dX0_ahead_16 : decode cX0_ahead 16 = .ok (.iload 5, 2) := by decide +kernel
theorem dX0_ahead_18 : decode cX0_ahead 18 = .ok (.iload 4, 2) := by decide +kernel
theorem dX0_ahead_20 : decode cX0_ahead 20 = .ok (.aload_n 0, 1) := by decide +kernel
theorem dX0_ahead_21 : decode cX0_ahead 21 = .ok (.iconst 0, 1) := by decide +kernel
theorem dX0_ahead_22 : decode cX0_ahead 22 = .ok (.iaload, 1) := by decide +kernel
theorem dX0_ahead_23 : decode cX0_ahead 23 = .ok (.if_icmp .ge 7, 3) := by decide +kernel
theorem dX0_ahead_26 : decode cX0_ahead 26 = .ok (.iload_n 1, 1) := by decide +kernel
theorem dX0_ahead_27 : decode cX0_ahead 27 = .ok (.goto 6, 3) := by decide +kernel
theorem dX0_ahead_30 : decode cX0_ahead 30 = .ok (.aload_n 0, 1) := by decide +kernel
theorem dX0_ahead_31 : decode cX0_ahead 31 = .ok (.iconst 1, 1) := by decide +kernel
theorem dX0_ahead_32 : decode cX0_ahead 32 = .ok (.iaload, 1) := by decide +kernel
theorem dX0_ahead_33 : decode cX0_ahead 33 = .ok (.if_icmp .gt 108, 3) := by decide +kernel
theorem dX0_ahead_36 : decode cX0_ahead 36 = .ok (.iconst 1, 1) := by decide +kernel
theorem dX0_ahead_37 : decode cX0_ahead 37 = .ok (.istore 6, 2) := by decide +kernel
theorem dX0_ahead_39 : decode cX0_ahead 39 = .ok (.iload 6, 2) := by decide +kernel
theorem dX0_ahead_41 : decode cX0_ahead 41 = .ok (.iload_n 1, 1) := by decide +kernel
theorem dX0_ahead_42 : decode cX0_ahead 42 = .ok (.if_icmp .gt 93, 3) := by decide +kernel
theorem dX0_ahead_45 : decode cX0_ahead 45 = .ok (.aload_n 0, 1) := by decide +kernel
theorem dX0_ahead_46 : decode cX0_ahead 46 = .ok (.invokestatic 7, 3) := by decide +kernel
theorem dX0_ahead_49 : decode cX0_ahead 49 = .ok (.iload 4, 2) := by decide +kernel
theorem dX0_ahead_51 : decode cX0_ahead 51 = .ok (.isub, 1) := by decide +kernel
theorem dX0_ahead_52 : decode cX0_ahead 52 = .ok (.iload 5, 2) := by decide +kernel
theorem dX0_ahead_54 : decode cX0_ahead 54 = .ok (.isub, 1) := by decide +kernel
theorem dX0_ahead_55 : decode cX0_ahead 55 = .ok (.iload 6, 2) := by decide +kernel
theorem dX0_ahead_57 : decode cX0_ahead 57 = .ok (.isub, 1) := by decide +kernel
theorem dX0_ahead_58 : decode cX0_ahead 58 = .ok (.istore 7, 2) := by decide +kernel
theorem dX0_ahead_60 : decode cX0_ahead 60 = .ok (.iload 4, 2) := by decide +kernel
theorem dX0_ahead_62 : decode cX0_ahead 62 = .ok (.aload_n 0, 1) := by decide +kernel
theorem dX0_ahead_63 : decode cX0_ahead 63 = .ok (.iconst 0, 1) := by decide +kernel
theorem dX0_ahead_64 : decode cX0_ahead 64 = .ok (.iaload, 1) := by decide +kernel
theorem dX0_ahead_65 : decode cX0_ahead 65 = .ok (.if_icmp .lt 19, 3) := by decide +kernel
theorem dX0_ahead_68 : decode cX0_ahead 68 = .ok (.iload 5, 2) := by decide +kernel
theorem dX0_ahead_70 : decode cX0_ahead 70 = .ok (.aload_n 0, 1) := by decide +kernel
theorem dX0_ahead_71 : decode cX0_ahead 71 = .ok (.iconst 1, 1) := by decide +kernel
theorem dX0_ahead_72 : decode cX0_ahead 72 = .ok (.iaload, 1) := by decide +kernel
theorem dX0_ahead_73 : decode cX0_ahead 73 = .ok (.if_icmp .lt 11, 3) := by decide +kernel
theorem dX0_ahead_76 : decode cX0_ahead 76 = .ok (.iload 6, 2) := by decide +kernel
theorem dX0_ahead_78 : decode cX0_ahead 78 = .ok (.aload_n 0, 1) := by decide +kernel
theorem dX0_ahead_79 : decode cX0_ahead 79 = .ok (.iconst 2, 1) := by decide +kernel
theorem dX0_ahead_80 : decode cX0_ahead 80 = .ok (.iaload, 1) := by decide +kernel
theorem dX0_ahead_81 : decode cX0_ahead 81 = .ok (.if_icmp .ge 7, 3) := by decide +kernel
theorem dX0_ahead_84 : decode cX0_ahead 84 = .ok (.iconst 1, 1) := by decide +kernel
theorem dX0_ahead_85 : decode cX0_ahead 85 = .ok (.goto 4, 3) := by decide +kernel
theorem dX0_ahead_88 : decode cX0_ahead 88 = .ok (.iconst 0, 1) := by decide +kernel
theorem dX0_ahead_89 : decode cX0_ahead 89 = .ok (.istore 8, 2) := by decide +kernel
theorem dX0_ahead_91 : decode cX0_ahead 91 = .ok (.iload 8, 2) := by decide +kernel
theorem dX0_ahead_93 : decode cX0_ahead 93 = .ok (.ifCond .eq 36, 3) := by decide +kernel
theorem dX0_ahead_96 : decode cX0_ahead 96 = .ok (.iload 7, 2) := by decide +kernel
theorem dX0_ahead_98 : decode cX0_ahead 98 = .ok (.iconst 1, 1) := by decide +kernel
theorem dX0_ahead_99 : decode cX0_ahead 99 = .ok (.if_icmp .lt 30, 3) := by decide +kernel
theorem dX0_ahead_102 : decode cX0_ahead 102 = .ok (.iload 7, 2) := by decide +kernel
theorem dX0_ahead_104 : decode cX0_ahead 104 = .ok (.iload_n 1, 1) := by decide +kernel
theorem dX0_ahead_105 : decode cX0_ahead 105 = .ok (.if_icmp .gt 24, 3) := by decide +kernel
theorem dX0_ahead_108 : decode cX0_ahead 108 = .ok (.iload_n 2, 1) := by decide +kernel
theorem dX0_ahead_109 : decode cX0_ahead 109 = .ok (.ifCond .eq 17, 3) := by decide +kernel
theorem dX0_ahead_112 : decode cX0_ahead 112 = .ok (.iload 4, 2) := by decide +kernel
theorem dX0_ahead_114 : decode cX0_ahead 114 = .ok (.iload 5, 2) := by decide +kernel
theorem dX0_ahead_116 : decode cX0_ahead 116 = .ok (.iload 6, 2) := by decide +kernel
theorem dX0_ahead_118 : decode cX0_ahead 118 = .ok (.iload 7, 2) := by decide +kernel
theorem dX0_ahead_120 : decode cX0_ahead 120 = .ok (.invokestatic 13, 3) := by decide +kernel
theorem dX0_ahead_123 : decode cX0_ahead 123 = .ok (.ifCond .eq 6, 3) := by decide +kernel
theorem dX0_ahead_126 : decode cX0_ahead 126 = .ok (.iinc 3 1, 3) := by decide +kernel
theorem dX0_ahead_129 : decode cX0_ahead 129 = .ok (.iinc 6 1, 3) := by decide +kernel
theorem dX0_ahead_132 : decode cX0_ahead 132 = .ok (.goto (-93), 3) := by decide +kernel
theorem dX0_ahead_135 : decode cX0_ahead 135 = .ok (.iinc 5 1, 3) := by decide +kernel
theorem dX0_ahead_138 : decode cX0_ahead 138 = .ok (.goto (-122), 3) := by decide +kernel
theorem dX0_ahead_141 : decode cX0_ahead 141 = .ok (.iinc 4 1, 3) := by decide +kernel
theorem dX0_ahead_144 : decode cX0_ahead 144 = .ok (.goto (-139), 3) := by decide +kernel
theorem dX0_ahead_147 : decode cX0_ahead 147 = .ok (.iload_n 3, 1) := by decide +kernel
theorem dX0_ahead_148 : decode cX0_ahead 148 = .ok (.ireturn, 1) := by decide +kernel
theorem dX0_holds_0 : decode cX0_holds 0 = .ok (.bipush (-4), 2) := by decide +kernel
theorem dX0_holds_2 : decode cX0_holds 2 = .ok (.istore_n 2, 1) := by decide +kernel
theorem dX0_holds_3 : decode cX0_holds 3 = .ok (.iload_n 2, 1) := by decide +kernel
theorem dX0_holds_4 : decode cX0_holds 4 = .ok (.bipush 8, 2) := by decide +kernel
theorem dX0_holds_6 : decode cX0_holds 6 = .ok (.if_icmp .ge 24, 3) := by decide +kernel
theorem dX0_holds_9 : decode cX0_holds 9 = .ok (.aload_n 0, 1) := by decide +kernel
theorem dX0_holds_10 : decode cX0_holds 10 = .ok (.iload_n 2, 1) := by decide +kernel
theorem dX0_holds_11 : decode cX0_holds 11 = .ok (.invokevirtual 38, 3) := by decide +kernel
theorem dX0_holds_14 : decode cX0_holds 14 = .ok (.aload_n 1, 1) := by decide +kernel
theorem dX0_holds_15 : decode cX0_holds 15 = .ok (.iload_n 2, 1) := by decide +kernel
theorem dX0_holds_16 : decode cX0_holds 16 = .ok (.iconst 3, 1) := by decide +kernel
theorem dX0_holds_17 : decode cX0_holds 17 = .ok (.iand, 1) := by decide +kernel
theorem dX0_holds_18 : decode cX0_holds 18 = .ok (.iaload, 1) := by decide +kernel
theorem dX0_holds_19 : decode cX0_holds 19 = .ok (.if_icmp .eq 5, 3) := by decide +kernel
theorem dX0_holds_22 : decode cX0_holds 22 = .ok (.iconst 0, 1) := by decide +kernel
theorem dX0_holds_23 : decode cX0_holds 23 = .ok (.ireturn, 1) := by decide +kernel
theorem dX0_holds_24 : decode cX0_holds 24 = .ok (.iinc 2 1, 3) := by decide +kernel
theorem dX0_holds_27 : decode cX0_holds 27 = .ok (.goto (-24), 3) := by decide +kernel
theorem dX0_holds_30 : decode cX0_holds 30 = .ok (.iconst 1, 1) := by decide +kernel
theorem dX0_holds_31 : decode cX0_holds 31 = .ok (.ireturn, 1) := by decide +kernel
theorem dX0_told_0 : decode cX0_told 0 = .ok (.iload_n 2, 1) := by decide +kernel
theorem dX0_told_1 : decode cX0_told 1 = .ok (.iconst 3, 1) := by decide +kernel
theorem dX0_told_2 : decode cX0_told 2 = .ok (.iand, 1) := by decide +kernel
theorem dX0_told_3 : decode cX0_told 3 = .ok (.ifCond .ne 29, 3) := by decide +kernel
theorem dX0_told_6 : decode cX0_told 6 = .ok (.aload_n 1, 1) := by decide +kernel
theorem dX0_told_7 : decode cX0_told 7 = .ok (.iload_n 2, 1) := by decide +kernel
theorem dX0_told_8 : decode cX0_told 8 = .ok (.iconst 2, 1) := by decide +kernel
theorem dX0_told_9 : decode cX0_told 9 = .ok (.ishr, 1) := by decide +kernel
theorem dX0_told_10 : decode cX0_told 10 = .ok (.iconst 3, 1) := by decide +kernel
theorem dX0_told_11 : decode cX0_told 11 = .ok (.iand, 1) := by decide +kernel
theorem dX0_told_12 : decode cX0_told 12 = .ok (.iconst 1, 1) := by decide +kernel
theorem dX0_told_13 : decode cX0_told 13 = .ok (.iload_n 2, 1) := by decide +kernel
theorem dX0_told_14 : decode cX0_told 14 = .ok (.iconst 4, 1) := by decide +kernel
theorem dX0_told_15 : decode cX0_told 15 = .ok (.ishr, 1) := by decide +kernel
theorem dX0_told_16 : decode cX0_told 16 = .ok (.bipush 7, 2) := by decide +kernel
theorem dX0_told_18 : decode cX0_told 18 = .ok (.iand, 1) := by decide +kernel
theorem dX0_told_19 : decode cX0_told 19 = .ok (.iadd, 1) := by decide +kernel
theorem dX0_told_20 : decode cX0_told 20 = .ok (.iastore, 1) := by decide +kernel
theorem dX0_told_21 : decode cX0_told 21 = .ok (.aload_n 0, 1) := by decide +kernel
theorem dX0_told_22 : decode cX0_told 22 = .ok (.iload_n 2, 1) := by decide +kernel
theorem dX0_told_23 : decode cX0_told 23 = .ok (.iconst 2, 1) := by decide +kernel
theorem dX0_told_24 : decode cX0_told 24 = .ok (.ishr, 1) := by decide +kernel
theorem dX0_told_25 : decode cX0_told 25 = .ok (.iload_n 2, 1) := by decide +kernel
theorem dX0_told_26 : decode cX0_told 26 = .ok (.iconst 4, 1) := by decide +kernel
theorem dX0_told_27 : decode cX0_told 27 = .ok (.ishr, 1) := by decide +kernel
theorem dX0_told_28 : decode cX0_told 28 = .ok (.invokevirtual 41, 3) := by decide +kernel
theorem dX0_told_31 : decode cX0_told 31 = .ok (.return_, 1) := by decide +kernel
theorem dX0_told_32 : decode cX0_told 32 = .ok (.iload_n 2, 1) := by decide +kernel
theorem dX0_told_33 : decode cX0_told 33 = .ok (.iconst 3, 1) := by decide +kernel
theorem dX0_told_34 : decode cX0_told 34 = .ok (.iand, 1) := by decide +kernel
theorem dX0_told_35 : decode cX0_told 35 = .ok (.iconst 1, 1) := by decide +kernel
theorem dX0_told_36 : decode cX0_told 36 = .ok (.if_icmp .ne 7, 3) := by decide +kernel
theorem dX0_told_39 : decode cX0_told 39 = .ok (.iconst 1, 1) := by decide +kernel
theorem dX0_told_40 : decode cX0_told 40 = .ok (.goto 5, 3) := by decide +kernel
theorem dX0_told_43 : decode cX0_told 43 = .ok (.bipush 7, 2) := by decide +kernel
theorem dX0_told_45 : decode cX0_told 45 = .ok (.istore_n 3, 1) := by decide +kernel
theorem dX0_told_46 : decode cX0_told 46 = .ok (.iconst 0, 1) := by decide +kernel
theorem dX0_told_47 : decode cX0_told 47 = .ok (.istore 4, 2) := by decide +kernel
end
section
set_option maxRecDepth 100000
theorem dX0_told_49 : decode cX0_told 49 = .ok (.iload 4, 2) := by decide +kernel
theorem dX0_told_51 : decode cX0_told 51 = .ok (.iconst 4, 1) := by decide +kernel
theorem dX0_told_52 : decode cX0_told 52 = .ok (.if_icmp .ge 25, 3) := by decide +kernel
theorem dX0_told_55 : decode cX0_told 55 = .ok (.aload_n 1, 1) := by decide +kernel
theorem dX0_told_56 : decode cX0_told 56 = .ok (.iload 4, 2) := by decide +kernel
theorem dX0_told_58 : decode cX0_told 58 = .ok (.iconst 1, 1) := by decide +kernel
theorem dX0_told_59 : decode cX0_told 59 = .ok (.iload_n 2, 1) := by decide +kernel
theorem dX0_told_60 : decode cX0_told 60 = .ok (.iconst 2, 1) := by decide +kernel
theorem dX0_told_61 : decode cX0_told 61 = .ok (.iconst 3, 1) := by decide +kernel
theorem dX0_told_62 : decode cX0_told 62 = .ok (.iload 4, 2) := by decide +kernel
theorem dX0_told_64 : decode cX0_told 64 = .ok (.imul, 1) := by decide +kernel
theorem dX0_told_65 : decode cX0_told 65 = .ok (.iadd, 1) := by decide +kernel
theorem dX0_told_66 : decode cX0_told 66 = .ok (.ishr, 1) := by decide +kernel
theorem dX0_told_67 : decode cX0_told 67 = .ok (.iload_n 3, 1) := by decide +kernel
theorem dX0_told_68 : decode cX0_told 68 = .ok (.iand, 1) := by decide +kernel
theorem dX0_told_69 : decode cX0_told 69 = .ok (.iadd, 1) := by decide +kernel
theorem dX0_told_70 : decode cX0_told 70 = .ok (.iastore, 1) := by decide +kernel
theorem dX0_told_71 : decode cX0_told 71 = .ok (.iinc 4 1, 3) := by decide +kernel
theorem dX0_told_74 : decode cX0_told 74 = .ok (.goto (-25), 3) := by decide +kernel
theorem dX0_told_77 : decode cX0_told 77 = .ok (.aload_n 0, 1) := by decide +kernel
theorem dX0_told_78 : decode cX0_told 78 = .ok (.aload_n 1, 1) := by decide +kernel
theorem dX0_told_79 : decode cX0_told 79 = .ok (.iconst 0, 1) := by decide +kernel
theorem dX0_told_80 : decode cX0_told 80 = .ok (.iaload, 1) := by decide +kernel
theorem dX0_told_81 : decode cX0_told 81 = .ok (.iconst 1, 1) := by decide +kernel
theorem dX0_told_82 : decode cX0_told 82 = .ok (.isub, 1) := by decide +kernel
theorem dX0_told_83 : decode cX0_told 83 = .ok (.aload_n 1, 1) := by decide +kernel
theorem dX0_told_84 : decode cX0_told 84 = .ok (.iconst 1, 1) := by decide +kernel
theorem dX0_told_85 : decode cX0_told 85 = .ok (.iaload, 1) := by decide +kernel
theorem dX0_told_86 : decode cX0_told 86 = .ok (.bipush 9, 2) := by decide +kernel
theorem dX0_told_88 : decode cX0_told 88 = .ok (.isub, 1) := by decide +kernel
theorem dX0_told_89 : decode cX0_told 89 = .ok (.aload_n 1, 1) := by decide +kernel
theorem dX0_told_90 : decode cX0_told 90 = .ok (.iconst 2, 1) := by decide +kernel
theorem dX0_told_91 : decode cX0_told 91 = .ok (.iaload, 1) := by decide +kernel
theorem dX0_told_92 : decode cX0_told 92 = .ok (.bipush 7, 2) := by decide +kernel
theorem dX0_told_94 : decode cX0_told 94 = .ok (.iadd, 1) := by decide +kernel
theorem dX0_told_95 : decode cX0_told 95 = .ok (.aload_n 1, 1) := by decide +kernel
theorem dX0_told_96 : decode cX0_told 96 = .ok (.iconst 3, 1) := by decide +kernel
theorem dX0_told_97 : decode cX0_told 97 = .ok (.iaload, 1) := by decide +kernel
theorem dX0_told_98 : decode cX0_told 98 = .ok (.sipush 1023, 3) := by decide +kernel
theorem dX0_told_101 : decode cX0_told 101 = .ok (.iadd, 1) := by decide +kernel
theorem dX0_told_102 : decode cX0_told 102 = .ok (.invokevirtual 44, 3) := by decide +kernel
theorem dX0_told_105 : decode cX0_told 105 = .ok (.return_, 1) := by decide +kernel
theorem dL_law_0 : decode cL_law 0 = .ok (.new 30, 3) := by decide +kernel
theorem dL_law_3 : decode cL_law 3 = .ok (.dup, 1) := by decide +kernel
theorem dL_law_4 : decode cL_law 4 = .ok (.invokespecial 48, 3) := by decide +kernel
theorem dL_law_7 : decode cL_law 7 = .ok (.astore_n 1, 1) := by decide +kernel
theorem dL_law_8 : decode cL_law 8 = .ok (.iconst 4, 1) := by decide +kernel
theorem dL_law_9 : decode cL_law 9 = .ok (.newarray .int, 2) := by decide +kernel
theorem dL_law_11 : decode cL_law 11 = .ok (.dup, 1) := by decide +kernel
theorem dL_law_12 : decode cL_law 12 = .ok (.iconst 0, 1) := by decide +kernel
theorem dL_law_13 : decode cL_law 13 = .ok (.iconst 1, 1) := by decide +kernel
theorem dL_law_14 : decode cL_law 14 = .ok (.iastore, 1) := by decide +kernel
theorem dL_law_15 : decode cL_law 15 = .ok (.dup, 1) := by decide +kernel
theorem dL_law_16 : decode cL_law 16 = .ok (.iconst 1, 1) := by decide +kernel
theorem dL_law_17 : decode cL_law 17 = .ok (.iconst 1, 1) := by decide +kernel
theorem dL_law_18 : decode cL_law 18 = .ok (.iastore, 1) := by decide +kernel
theorem dL_law_19 : decode cL_law 19 = .ok (.dup, 1) := by decide +kernel
theorem dL_law_20 : decode cL_law 20 = .ok (.iconst 2, 1) := by decide +kernel
theorem dL_law_21 : decode cL_law 21 = .ok (.iconst 1, 1) := by decide +kernel
theorem dL_law_22 : decode cL_law 22 = .ok (.iastore, 1) := by decide +kernel
theorem dL_law_23 : decode cL_law 23 = .ok (.dup, 1) := by decide +kernel
theorem dL_law_24 : decode cL_law 24 = .ok (.iconst 3, 1) := by decide +kernel
theorem dL_law_25 : decode cL_law 25 = .ok (.iconst 1, 1) := by decide +kernel
theorem dL_law_26 : decode cL_law 26 = .ok (.iastore, 1) := by decide +kernel
theorem dL_law_27 : decode cL_law 27 = .ok (.astore_n 2, 1) := by decide +kernel
theorem dL_law_28 : decode cL_law 28 = .ok (.aload_n 1, 1) := by decide +kernel
theorem dL_law_29 : decode cL_law 29 = .ok (.aload_n 2, 1) := by decide +kernel
theorem dL_law_30 : decode cL_law 30 = .ok (.invokestatic 49, 3) := by decide +kernel
theorem dL_law_33 : decode cL_law 33 = .ok (.ifCond .ne 5, 3) := by decide +kernel
theorem dL_law_36 : decode cL_law 36 = .ok (.iconst 0, 1) := by decide +kernel
theorem dL_law_37 : decode cL_law 37 = .ok (.ireturn, 1) := by decide +kernel
theorem dL_law_38 : decode cL_law 38 = .ok (.iconst 0, 1) := by decide +kernel
theorem dL_law_39 : decode cL_law 39 = .ok (.istore_n 3, 1) := by decide +kernel
theorem dL_law_40 : decode cL_law 40 = .ok (.iload_n 3, 1) := by decide +kernel
theorem dL_law_41 : decode cL_law 41 = .ok (.bipush 96, 2) := by decide +kernel
theorem dL_law_43 : decode cL_law 43 = .ok (.if_icmp .ge 65, 3) := by decide +kernel
theorem dL_law_46 : decode cL_law 46 = .ok (.aload_n 0, 1) := by decide +kernel
theorem dL_law_47 : decode cL_law 47 = .ok (.iload_n 3, 1) := by decide +kernel
theorem dL_law_48 : decode cL_law 48 = .ok (.invokestatic 53, 3) := by decide +kernel
theorem dL_law_51 : decode cL_law 51 = .ok (.istore 4, 2) := by decide +kernel
theorem dL_law_53 : decode cL_law 53 = .ok (.aload_n 1, 1) := by decide +kernel
theorem dL_law_54 : decode cL_law 54 = .ok (.aload_n 2, 1) := by decide +kernel
theorem dL_law_55 : decode cL_law 55 = .ok (.iload 4, 2) := by decide +kernel
theorem dL_law_57 : decode cL_law 57 = .ok (.invokestatic 56, 3) := by decide +kernel
theorem dL_law_60 : decode cL_law 60 = .ok (.aload_n 1, 1) := by decide +kernel
theorem dL_law_61 : decode cL_law 61 = .ok (.aload_n 2, 1) := by decide +kernel
theorem dL_law_62 : decode cL_law 62 = .ok (.iload 4, 2) := by decide +kernel
theorem dL_law_64 : decode cL_law 64 = .ok (.bipush 14, 2) := by decide +kernel
theorem dL_law_66 : decode cL_law 66 = .ok (.ishr, 1) := by decide +kernel
theorem dL_law_67 : decode cL_law 67 = .ok (.invokestatic 60, 3) := by decide +kernel
theorem dL_law_70 : decode cL_law 70 = .ok (.ifCond .eq 30, 3) := by decide +kernel
theorem dL_law_73 : decode cL_law 73 = .ok (.aload_n 1, 1) := by decide +kernel
theorem dL_law_74 : decode cL_law 74 = .ok (.aload_n 2, 1) := by decide +kernel
theorem dL_law_75 : decode cL_law 75 = .ok (.iconst 0, 1) := by decide +kernel
theorem dL_law_76 : decode cL_law 76 = .ok (.invokestatic 60, 3) := by decide +kernel
theorem dL_law_79 : decode cL_law 79 = .ok (.ifCond .eq 21, 3) := by decide +kernel
theorem dL_law_82 : decode cL_law 82 = .ok (.aload_n 1, 1) := by decide +kernel
theorem dL_law_83 : decode cL_law 83 = .ok (.aload_n 2, 1) := by decide +kernel
theorem dL_law_84 : decode cL_law 84 = .ok (.iload 4, 2) := by decide +kernel
theorem dL_law_86 : decode cL_law 86 = .ok (.invokestatic 60, 3) := by decide +kernel
theorem dL_law_89 : decode cL_law 89 = .ok (.ifCond .eq 11, 3) := by decide +kernel
theorem dL_law_92 : decode cL_law 92 = .ok (.aload_n 1, 1) := by decide +kernel
theorem dL_law_93 : decode cL_law 93 = .ok (.aload_n 2, 1) := by decide +kernel
theorem dL_law_94 : decode cL_law 94 = .ok (.invokestatic 49, 3) := by decide +kernel
theorem dL_law_97 : decode cL_law 97 = .ok (.ifCond .ne 5, 3) := by decide +kernel
theorem dL_law_100 : decode cL_law 100 = .ok (.iconst 0, 1) := by decide +kernel
theorem dL_law_101 : decode cL_law 101 = .ok (.ireturn, 1) := by decide +kernel
theorem dL_law_102 : decode cL_law 102 = .ok (.iinc 3 1, 3) := by decide +kernel
theorem dL_law_105 : decode cL_law 105 = .ok (.goto (-65), 3) := by decide +kernel
theorem dL_law_108 : decode cL_law 108 = .ok (.iconst 0, 1) := by decide +kernel
theorem dL_law_109 : decode cL_law 109 = .ok (.istore_n 3, 1) := by decide +kernel
theorem dL_law_110 : decode cL_law 110 = .ok (.iload_n 3, 1) := by decide +kernel
theorem dL_law_111 : decode cL_law 111 = .ok (.bipush 8, 2) := by decide +kernel
theorem dL_law_113 : decode cL_law 113 = .ok (.if_icmp .ge 57, 3) := by decide +kernel
theorem dL_law_116 : decode cL_law 116 = .ok (.aload_n 2, 1) := by decide +kernel
theorem dL_law_117 : decode cL_law 117 = .ok (.iconst 3, 1) := by decide +kernel
theorem dL_law_118 : decode cL_law 118 = .ok (.iconst 1, 1) := by decide +kernel
theorem dL_law_119 : decode cL_law 119 = .ok (.iload_n 3, 1) := by decide +kernel
theorem dL_law_120 : decode cL_law 120 = .ok (.iadd, 1) := by decide +kernel
theorem dL_law_121 : decode cL_law 121 = .ok (.iastore, 1) := by decide +kernel
theorem dL_law_122 : decode cL_law 122 = .ok (.aload_n 1, 1) := by decide +kernel
theorem dL_law_123 : decode cL_law 123 = .ok (.iconst (-1), 1) := by decide +kernel
theorem dL_law_124 : decode cL_law 124 = .ok (.iload_n 3, 1) := by decide +kernel
theorem dL_law_125 : decode cL_law 125 = .ok (.bipush 8, 2) := by decide +kernel
theorem dL_law_127 : decode cL_law 127 = .ok (.isub, 1) := by decide +kernel
theorem dL_law_128 : decode cL_law 128 = .ok (.invokevirtual 41, 3) := by decide +kernel
theorem dL_law_131 : decode cL_law 131 = .ok (.aload_n 1, 1) := by decide +kernel
theorem dL_law_132 : decode cL_law 132 = .ok (.aload_n 2, 1) := by decide +kernel
theorem dL_law_133 : decode cL_law 133 = .ok (.aload_n 0, 1) := by decide +kernel
theorem dL_law_134 : decode cL_law 134 = .ok (.iload_n 3, 1) := by decide +kernel
theorem dL_law_135 : decode cL_law 135 = .ok (.invokestatic 53, 3) := by decide +kernel
theorem dL_law_138 : decode cL_law 138 = .ok (.invokestatic 60, 3) := by decide +kernel
theorem dL_law_141 : decode cL_law 141 = .ok (.ifCond .eq 21, 3) := by decide +kernel
theorem dL_law_144 : decode cL_law 144 = .ok (.aload_n 1, 1) := by decide +kernel
theorem dL_law_145 : decode cL_law 145 = .ok (.aload_n 2, 1) := by decide +kernel
theorem dL_law_146 : decode cL_law 146 = .ok (.bipush 7, 2) := by decide +kernel
theorem dL_law_148 : decode cL_law 148 = .ok (.invokestatic 60, 3) := by decide +kernel
theorem dL_law_151 : decode cL_law 151 = .ok (.ifCond .eq 11, 3) := by decide +kernel
theorem dL_law_154 : decode cL_law 154 = .ok (.aload_n 1, 1) := by decide +kernel
theorem dL_law_155 : decode cL_law 155 = .ok (.aload_n 2, 1) := by decide +kernel
theorem dL_law_156 : decode cL_law 156 = .ok (.invokestatic 49, 3) := by decide +kernel
theorem dL_law_159 : decode cL_law 159 = .ok (.ifCond .ne 5, 3) := by decide +kernel
theorem dL_law_162 : decode cL_law 162 = .ok (.iconst 0, 1) := by decide +kernel
theorem dL_law_163 : decode cL_law 163 = .ok (.ireturn, 1) := by decide +kernel
theorem dL_law_164 : decode cL_law 164 = .ok (.iinc 3 1, 3) := by decide +kernel
theorem dL_law_167 : decode cL_law 167 = .ok (.goto (-57), 3) := by decide +kernel
theorem dL_law_170 : decode cL_law 170 = .ok (.iconst 1, 1) := by decide +kernel
theorem dL_law_171 : decode cL_law 171 = .ok (.ireturn, 1) := by decide +kernel
end
section
/-! THE PLAIN LAW: what getRSSvalue computes (zx_rs, as the code computes it) is how many rows come ahead (zx_ah, as the law counts them) -/
def zx_cP (n : Nat) : Nat → Nat
  | 0 => 1
  | t + 1 => zx_cP n t * (n - t) / (t + 1)
def zx_mn (n r : Nat) : Nat := if n - r ≤ r then n - r else r
/-- combins(n, r) -/
def zx_cb (n r : Nat) : Nat := zx_cP n (zx_mn n r)
/-- the inmost loop: c rounds from mxwElement = x; R: what is left behind this width -/
def zx_ls (R bar : Nat) : Nat → Nat → Nat → Nat
  | 0, _, acc => acc
  | c + 1, x, acc => zx_ls R bar c (x - 1) (acc + zx_cb (R - x - 1) (1 - bar))
def zx_s1 (R bar : Nat) : Int32 := nI (zx_cb (R - 1) (2 - bar))
def zx_s2 (R bar z : Nat) : Int32 := if z ≠ 0 ∧ 3 - bar ≤ R - (3 - bar) then zx_s1 R bar - nI (zx_cb (R - (4 - bar)) (2 - bar)) else zx_s1 R bar
def zx_fin (R bar M : Nat) (v : Int32) : Int32 := if bar < 2 then v - nI (zx_ls R bar (R - (2 - bar) - M) (R - (2 - bar)) 0 * (3 - bar)) else if M < R then v + (-1) else v
/-- subVal -/
def zx_sb (R bar M z : Nat) : Int32 := zx_fin R bar M (zx_s2 R bar z)
/-- no narrow one so far -/
def zx_z (nr mk e : Nat) : Nat := if nr ≠ 0 ∧ mk = 0 ∧ e ≠ 1 then 1 else 0
/-- the loop over elmWidth: c rounds from e -/
def zx_in (N bar M nr mk : Nat) : Nat → Nat → Int32 → Int32
  | 0, _, V => V
  | c + 1, e, V => zx_in N bar M nr mk c (e + 1) (V + zx_sb (N - e) bar M (zx_z nr mk e))
def zx_mk (w : Nat → Nat) (bar mk : Nat) : Nat := mk + if w bar = 1 then 2 ^ bar else 0
/-- the loop over bar -/
def zx_ou (w : Nat → Nat) (M nr : Nat) : Nat → Nat → Nat → Nat → Int32 → Int32
  | 0, _, _, _, V => V
  | c + 1, bar, N, mq, V => zx_ou w M nr c (bar + 1) (N - w bar) (zx_mk w bar mq) (zx_in N bar M nr mq (w bar - 1) 1 V)
def zx_sm (w : Nat → Nat) : Nat := w 0 + w 1 + w 2 + w 3
/-- getRSSvalue(w, M, nr) -/
def zx_rs (w : Nat → Nat) (M nr : Nat) : Int32 := zx_ou w M nr 3 0 (zx_sm w) 0 0
/-- a loop that counts: c rounds from i -/
def zx_sF (f : Nat → Nat) : Nat → Nat → Nat → Nat
  | 0, _, z => z
  | c + 1, i, z => zx_sF f c (i + 1) (z + f i)
def zx_tt (w : Nat → Nat) (M nr a b c : Nat) : Nat := if (a < w 0 ∨ b < w 1 ∨ c < w 2) ∧ a + b + c + 1 ≤ zx_sm w ∧ zx_sm w ≤ M + a + b + c ∧ (nr = 0 ∨ a = 1 ∨ b = 1 ∨ c = 1 ∨ zx_sm w = a + b + c + 1) then 1 else 0
/-- ahead(w, M, nr) -/
def zx_ah (w : Nat → Nat) (M nr : Nat) : Nat := zx_sF (fun a => zx_sF (fun b => zx_sF (fun c => zx_tt w M nr a b c) M 1 0) (if a < w 0 then M else w 1) 1 0) (w 0) 1 0
-- rows of three, of two, of one width with the sum R
def zx_t3 (R M z b c : Nat) : Nat := if b + c + 1 ≤ R ∧ R ≤ M + b + c ∧ (z = 0 ∨ b = 1 ∨ c = 1 ∨ R = b + c + 1) then 1 else 0
def zx_c3 (R M z : Nat) : Nat := zx_sF (fun b => zx_sF (fun c => zx_t3 R M z b c) M 1 0) M 1 0
def zx_t2 (R M z c : Nat) : Nat := if c + 1 ≤ R ∧ R ≤ M + c ∧ (z = 0 ∨ c = 1 ∨ R = c + 1) then 1 else 0
def zx_c2 (R M z : Nat) : Nat := zx_sF (fun c => zx_t2 R M z c) M 1 0
def zx_c1 (R M z : Nat) : Nat := if 1 ≤ R ∧ R ≤ M ∧ (z = 0 ∨ R = 1) then 1 else 0
set_option maxRecDepth 100000
def zx_al : Nat → (Nat → Bool) → Bool
  | 0, _ => true
  | n + 1, p => p n && zx_al n p
theorem zx_al_spec {p : Nat → Bool} : ∀ {n : Nat}, zx_al n p = true → ∀ {k : Nat}, k < n → p k = true := by
  intro n
  induction n with
  | zero => intro _ k hk; exact absurd hk (Nat.not_lt_zero k)
  | succ n ih =>
    intro h k hk
    have h2 : (p n && zx_al n p) = true := h
    rw [Bool.and_eq_true] at h2
    rcases Nat.lt_or_ge k n with q | q
    · exact ih h2.2 q
    · rw [show k = n by omega]; exact h2.1
/-- one row of the tables below: out of range, or what the code computes is the number of rows -/
def zx_ck (lo hi z mz R : Nat) (v : Int32) (n : Nat) : Bool := !(decide (lo ≤ R) && decide (R < hi) && (decide (z = 0) || decide (R < mz))) || decide (v = nI n)
theorem zx_ck_spec {lo hi z mz R : Nat} {v : Int32} {n : Nat} (h : zx_ck lo hi z mz R v n = true) (h1 : lo ≤ R) (h2 : R < hi) (h3 : z ≠ 0 → R < mz) : v = nI n := by
  unfold zx_ck at h
  rw [decide_eq_true h1, decide_eq_true h2] at h
  have h4 : (decide (z = 0) || decide (R < mz)) = true := by
    by_cases hz : z = 0
    · rw [decide_eq_true hz]; rfl
    · rw [decide_eq_true (h3 hz)]; exact Bool.or_true _
  rw [h4] at h
  exact of_decide_eq_true h
set_option maxHeartbeats 4000000 in
theorem zx_T0c : zx_al 9 (fun M => zx_al 19 (fun R => zx_al 2 (fun z => zx_ck 3 (2 * M + 3) z (M + 5) R (zx_sb R 0 M z) (zx_c3 R M z)))) = true := by decide +kernel
set_option maxHeartbeats 4000000 in
theorem zx_T1c : zx_al 9 (fun M => zx_al 19 (fun R => zx_al 2 (fun z => zx_ck 2 (2 * M + 2) z (M + 3) R (zx_sb R 1 M z) (zx_c2 R M z)))) = true := by decide +kernel
set_option maxHeartbeats 4000000 in
theorem zx_T2c : zx_al 9 (fun M => zx_al 19 (fun R => zx_al 2 (fun z => zx_ck 1 (2 * M + 1) z (M + 1) R (zx_sb R 2 M z) (zx_c1 R M z)))) = true := by decide +kernel
theorem zx_T0 (M : Nat) (hM : M < 9) (R : Nat) (hR : R < 19) (z : Nat) (hz : z < 2) (h1 : 3 ≤ R) (h2 : R < 2 * M + 3) (h3 : z ≠ 0 → R < M + 5) : zx_sb R 0 M z = nI (zx_c3 R M z) := zx_ck_spec (zx_al_spec (zx_al_spec (zx_al_spec zx_T0c hM) hR) hz) h1 h2 h3
theorem zx_T1 (M : Nat) (hM : M < 9) (R : Nat) (hR : R < 19) (z : Nat) (hz : z < 2) (h1 : 2 ≤ R) (h2 : R < 2 * M + 2) (h3 : z ≠ 0 → R < M + 3) : zx_sb R 1 M z = nI (zx_c2 R M z) := zx_ck_spec (zx_al_spec (zx_al_spec (zx_al_spec zx_T1c hM) hR) hz) h1 h2 h3
theorem zx_T2 (M : Nat) (hM : M < 9) (R : Nat) (hR : R < 19) (z : Nat) (hz : z < 2) (h1 : 1 ≤ R) (h2 : R < 2 * M + 1) (h3 : z ≠ 0 → R < M + 1) : zx_sb R 2 M z = nI (zx_c1 R M z) := zx_ck_spec (zx_al_spec (zx_al_spec (zx_al_spec zx_T2c hM) hR) hz) h1 h2 h3
theorem zx_if {P Q : Prop} [Decidable P] [Decidable Q] (h : P ↔ Q) : (if P then 1 else 0 : Nat) = (if Q then 1 else 0) := by
  by_cases hp : P
  · rw [if_pos hp, if_pos (h.mp hp)]
  · rw [if_neg hp, if_neg (fun q => hp (h.mpr q))]
theorem zx_z_lt (nr mk e : Nat) : zx_z nr mk e < 2 := by
  unfold zx_z
  by_cases h : nr ≠ 0 ∧ mk = 0 ∧ e ≠ 1
  · rw [if_pos h]; decide
  · rw [if_neg h]; decide
theorem zx_z_iff (nr mk e : Nat) : zx_z nr mk e = 0 ↔ (nr = 0 ∨ mk ≠ 0 ∨ e = 1) := by
  unfold zx_z
  by_cases h : nr ≠ 0 ∧ mk = 0 ∧ e ≠ 1
  · rw [if_pos h]; omega
  · rw [if_neg h]; omega
theorem zx_sF_add (f : Nat → Nat) : ∀ (c i z : Nat), zx_sF f c i z = z + zx_sF f c i 0 := by
  intro c
  induction c with
  | zero => intro i z; rfl
  | succ c ih =>
    intro i z
    show zx_sF f c (i + 1) (z + f i) = z + zx_sF f c (i + 1) (0 + f i)
    rw [ih (i + 1) (z + f i), ih (i + 1) (0 + f i)]
    omega
theorem zx_sF_congr {f g : Nat → Nat} : ∀ (c i z : Nat), (∀ j, i ≤ j → j < i + c → f j = g j) → zx_sF f c i z = zx_sF g c i z := by
  intro c
  induction c with
  | zero => intro i z _; rfl
  | succ c ih =>
    intro i z h
    show zx_sF f c (i + 1) (z + f i) = zx_sF g c (i + 1) (z + g i)
    rw [h i (Nat.le_refl i) (by omega)]
    exact ih (i + 1) _ (fun j h1 h2 => h j (by omega) (by omega))
theorem zx_sF_app (f : Nat → Nat) : ∀ (c d i z : Nat), zx_sF f (c + d) i z = zx_sF f d (i + c) (zx_sF f c i z) := by
  intro c
  induction c with
  | zero => intro d i z; rw [Nat.zero_add, Nat.add_zero]; rfl
  | succ c ih =>
    intro d i z
    rw [show c + 1 + d = (c + d) + 1 by omega, show i + (c + 1) = i + 1 + c by omega]
    exact ih d (i + 1) (z + f i)
theorem zx_sF_zero {f : Nat → Nat} : ∀ (c i z : Nat), (∀ j, i ≤ j → j < i + c → f j = 0) → zx_sF f c i z = z := by
  intro c
  induction c with
  | zero => intro i z _; rfl
  | succ c ih =>
    intro i z h
    show zx_sF f c (i + 1) (z + f i) = z
    rw [h i (Nat.le_refl i) (by omega)]
    exact ih (i + 1) _ (fun j h1 h2 => h j (by omega) (by omega))
theorem zx_sF_last (f : Nat → Nat) (c i : Nat) : zx_sF f (c + 1) i 0 = zx_sF f c i 0 + f (i + c) := by
  rw [zx_sF_app f c 1 i 0]
  rfl
theorem zx_in_law (N bar M nr mk : Nat) (g : Nat → Nat) : ∀ (c e v : Nat), (∀ j, e ≤ j → j < e + c → zx_sb (N - j) bar M (zx_z nr mk j) = nI (g j)) → zx_in N bar M nr mk c e (nI v) = nI (v + zx_sF g c e 0) := by
  intro c
  induction c with
  | zero => intro e v _; rfl
  | succ c ih =>
    intro e v h
    show zx_in N bar M nr mk c (e + 1) (nI v + zx_sb (N - e) bar M (zx_z nr mk e)) = nI (v + zx_sF g c (e + 1) (0 + g e))
    rw [h e (Nat.le_refl e) (by omega), nI_add, ih (e + 1) (v + g e) (fun j h1 h2 => h j (by omega) (by omega)), zx_sF_add g c (e + 1) (0 + g e)]
    congr 1
    omega
theorem zx_e3 (w : Nat → Nat) (M nr a : Nat) (ha : a < w 0) (h1 : 1 ≤ a) : zx_sF (fun b => zx_sF (fun c => zx_tt w M nr a b c) M 1 0) M 1 0 = zx_c3 (zx_sm w - a) M (zx_z nr 0 a) := by
  unfold zx_c3
  refine zx_sF_congr M 1 0 (fun b _ _ => zx_sF_congr M 1 0 (fun c _ _ => ?_))
  have hz := zx_z_iff nr 0 a
  unfold zx_tt zx_t3
  refine zx_if ?_
  rw [hz]
  omega
theorem zx_e2 (w : Nat → Nat) (M nr b mk : Nat) (hb : b < w 1) (h1 : 1 ≤ b) (hk : mk = 0 ↔ ¬ w 0 = 1) (hw : 1 ≤ w 0) : zx_sF (fun c => zx_tt w M nr (w 0) b c) M 1 0 = zx_c2 (zx_sm w - w 0 - b) M (zx_z nr mk b) := by
  unfold zx_c2
  refine zx_sF_congr M 1 0 (fun c _ _ => ?_)
  have hz := zx_z_iff nr mk b
  unfold zx_tt zx_t2
  refine zx_if ?_
  rw [hz]
  omega
theorem zx_e1 (w : Nat → Nat) (M nr c mk : Nat) (hc : c < w 2) (h1 : 1 ≤ c) (hk : mk = 0 ↔ (¬ w 0 = 1 ∧ ¬ w 1 = 1)) (hw : 1 ≤ w 0) (hw1 : 1 ≤ w 1) : zx_tt w M nr (w 0) (w 1) c = zx_c1 (zx_sm w - w 0 - w 1 - c) M (zx_z nr mk c) := by
  have hz := zx_z_iff nr mk c
  unfold zx_tt zx_c1
  refine zx_if ?_
  rw [hz]
  omega
/-- THE PLAIN LAW -/
theorem zx_law (w : Nat → Nat) (M nr : Nat) (h1 : ∀ j, j < 4 → 1 ≤ w j) (h8 : ∀ j, j < 4 → w j ≤ M) (hM : M ≤ 8) (hs : zx_sm w < 2 * M + 4) (hn : nr ≠ 0 → zx_sm w < M + 7) : zx_rs w M nr = nI (zx_ah w M nr) := by
  have a0 := h1 0 (by decide)
  have a1 := h1 1 (by decide)
  have a2 := h1 2 (by decide)
  have a3 := h1 3 (by decide)
  have b0 := h8 0 (by decide)
  have b1 := h8 1 (by decide)
  have b2 := h8 2 (by decide)
  have b3 := h8 3 (by decide)
  have hS : zx_sm w = w 0 + w 1 + w 2 + w 3 := rfl
  have k1 : zx_mk w 0 0 = 0 ↔ ¬ w 0 = 1 := by
    unfold zx_mk
    by_cases h : w 0 = 1
    · rw [if_pos h]; simp [h]
    · rw [if_neg h]; simp [h]
  have k2 : zx_mk w 1 (zx_mk w 0 0) = 0 ↔ (¬ w 0 = 1 ∧ ¬ w 1 = 1) := by
    rw [← k1]
    generalize zx_mk w 0 0 = m1
    unfold zx_mk
    by_cases h : w 1 = 1
    · rw [if_pos h]; simp [h]
    · rw [if_neg h]; simp [h]
  generalize hm1 : zx_mk w 0 0 = m1 at k1 k2
  generalize hm2 : zx_mk w 1 m1 = m2 at k2
  have e0 := zx_in_law (zx_sm w) 0 M nr 0 (fun a => zx_c3 (zx_sm w - a) M (zx_z nr 0 a)) (w 0 - 1) 1 0 (fun j j1 j2 => by
    have hz := zx_z_iff nr 0 j
    exact zx_T0 M (by omega) (zx_sm w - j) (by omega) _ (zx_z_lt _ _ _) (by omega) (by omega) (by omega))
  have e1 : ∀ v, zx_in (zx_sm w - w 0) 1 M nr m1 (w 1 - 1) 1 (nI v) = _ := fun v => zx_in_law (zx_sm w - w 0) 1 M nr m1 (fun b => zx_c2 (zx_sm w - w 0 - b) M (zx_z nr m1 b)) (w 1 - 1) 1 v (fun j j1 j2 => by
    have hz := zx_z_iff nr m1 j
    exact zx_T1 M (by omega) (zx_sm w - w 0 - j) (by omega) _ (zx_z_lt _ _ _) (by omega) (by omega) (by omega))
  have e2 : ∀ v, zx_in (zx_sm w - w 0 - w 1) 2 M nr m2 (w 2 - 1) 1 (nI v) = _ := fun v => zx_in_law (zx_sm w - w 0 - w 1) 2 M nr m2 (fun c => zx_c1 (zx_sm w - w 0 - w 1 - c) M (zx_z nr m2 c)) (w 2 - 1) 1 v (fun j j1 j2 => by
    have hz := zx_z_iff nr m2 j
    exact zx_T2 M (by omega) (zx_sm w - w 0 - w 1 - j) (by omega) _ (zx_z_lt _ _ _) (by omega) (by omega) (by omega))
  have L : zx_rs w M nr = zx_in (zx_sm w - w 0 - w 1) 2 M nr (zx_mk w 1 (zx_mk w 0 0)) (w 2 - 1) 1 (zx_in (zx_sm w - w 0) 1 M nr (zx_mk w 0 0) (w 1 - 1) 1 (zx_in (zx_sm w) 0 M nr 0 (w 0 - 1) 1 (nI 0))) := rfl
  rw [L, hm1, hm2, e0, e1, e2]
  congr 1
  -- the law's side
  have q0 : zx_ah w M nr = zx_sF (fun a => zx_c3 (zx_sm w - a) M (zx_z nr 0 a)) (w 0 - 1) 1 0 + zx_sF (fun b => zx_sF (fun c => zx_tt w M nr (w 0) b c) M 1 0) (w 1) 1 0 := by
    unfold zx_ah
    generalize hF : (fun a => zx_sF (fun b => zx_sF (fun c => zx_tt w M nr a b c) M 1 0) (if a < w 0 then M else w 1) 1 0) = F
    obtain ⟨p, hp⟩ : ∃ p, w 0 = p + 1 := ⟨w 0 - 1, by omega⟩
    rw [show zx_sF F (w 0) 1 0 = zx_sF F (p + 1) 1 0 by rw [hp], zx_sF_last F p 1, show 1 + p = w 0 by omega, show w 0 - 1 = p by omega]
    subst hF
    have f1 : zx_sF (fun a => zx_sF (fun b => zx_sF (fun c => zx_tt w M nr a b c) M 1 0) (if a < w 0 then M else w 1) 1 0) p 1 0 = zx_sF (fun a => zx_c3 (zx_sm w - a) M (zx_z nr 0 a)) p 1 0 := by
      refine zx_sF_congr p 1 0 (fun a j1 j2 => ?_)
      try dsimp only
      rw [if_pos (show a < w 0 by omega)]
      exact zx_e3 w M nr a (by omega) j1
    rw [f1]
    try dsimp only
    rw [if_neg (Nat.lt_irrefl _)]
  have q1 : zx_sF (fun b => zx_sF (fun c => zx_tt w M nr (w 0) b c) M 1 0) (w 1) 1 0 = zx_sF (fun b => zx_c2 (zx_sm w - w 0 - b) M (zx_z nr m1 b)) (w 1 - 1) 1 0 + zx_sF (fun c => zx_tt w M nr (w 0) (w 1) c) M 1 0 := by
    generalize hF : (fun b => zx_sF (fun c => zx_tt w M nr (w 0) b c) M 1 0) = F
    obtain ⟨p, hp⟩ : ∃ p, w 1 = p + 1 := ⟨w 1 - 1, by omega⟩
    rw [show zx_sF F (w 1) 1 0 = zx_sF F (p + 1) 1 0 by rw [hp], zx_sF_last F p 1, show 1 + p = w 1 by omega, show w 1 - 1 = p by omega]
    subst hF
    have f1 : zx_sF (fun b => zx_sF (fun c => zx_tt w M nr (w 0) b c) M 1 0) p 1 0 = zx_sF (fun b => zx_c2 (zx_sm w - w 0 - b) M (zx_z nr m1 b)) p 1 0 := by
      refine zx_sF_congr p 1 0 (fun b j1 j2 => ?_)
      exact zx_e2 w M nr b m1 (by omega) j1 k1 a0
    rw [f1]
  have q2 : zx_sF (fun c => zx_tt w M nr (w 0) (w 1) c) M 1 0 = zx_sF (fun c => zx_c1 (zx_sm w - w 0 - w 1 - c) M (zx_z nr m2 c)) (w 2 - 1) 1 0 := by
    rw [show M = (w 2 - 1) + (M - (w 2 - 1)) by omega, zx_sF_app]
    rw [zx_sF_zero (M - (w 2 - 1)) _ _ (fun c j1 j2 => by
      unfold zx_tt
      rw [if_neg]
      omega)]
    rw [show (w 2 - 1) + (M - (w 2 - 1)) = M by omega]
    refine zx_sF_congr (w 2 - 1) 1 0 (fun c j1 j2 => ?_)
    exact zx_e1 w M nr c m2 (by omega) j1 k2 a0 a1
  rw [q0, q1, q2]
  omega
end
section
/-! helpers of the walks -/
set_option maxRecDepth 100000
section ZX
variable {p : Program} {l : Launch} {e : Env} {R : Room} {s : State} {m : MethodId} {args : Array Value} {below : List Frame} {meth : Method} {c : Code} {H : Heap} {locs : List Loc} {cells slots : Nat} {Q : State → Prop} {pc : Nat} {ls : Array Slot} {rest st0 : List Value}
/-- the top of the stack, by another name -/
theorem zx_tp {x y : Int32} (h : x = y) (k : W p l e R s m args below meth c H locs cells slots Q (F0 m pc ls (.int y :: rest))) : W p l e R s m args below meth c H locs cells slots Q (F0 m pc ls (.int x :: rest)) := by
  rw [h]
  exact k
/-- a call that reads only -/
theorem zx_callR {a : Array Value} {r : Int32} (hr : CallRun p l e R s m args below meth c H locs cells slots 0 0 (F0 m pc ls st0) rest (QcRead r a) (fun _ => False)) (kk : W p l e R s m args below meth c H locs cells slots Q (F0 m (pc + 3) ls (.int r :: rest))) : W p l e R s m args below meth c H locs cells slots Q (F0 m pc ls st0) := W.callR hr kk
end ZX
/-- what a method that reads only is given: its world, unchanged -/
def zx_Rd (D : va_G) (ws : va_W) (tys : List (ClassId × FieldType)) (U : State) : Prop := va_P D vwCl ws U.heap ∧ va_K D vwCl tys U
theorem zx_Rd.blind {D : va_G} {ws : va_W} {tys : List (ClassId × FieldType)} {As : List Value} : FrameBlind (va_Pc As (zx_Rd D ws tys)) := fun a U g mk q => ⟨q.1, q.2.1, va_K.moved (u := U) (U := U.calling g mk a) (Vm.Alike.refl U.vm) q.2.2⟩
theorem zx_preS {D : va_G} {ws : va_W} {tys : List (ClassId × FieldType)} {s : State} {H : Heap} {As : List Value} (hP : va_P D vwCl ws H) (hK : va_K D vwCl tys s) : PreS s H (va_Pc As (zx_Rd D ws tys)) As := ⟨zx_Rd.blind, fun U hU hW => ⟨rfl, by rw [hU]; exact hP, va_K.moved hW.alike hK⟩⟩
theorem zx_preV {D : va_G} {ws : va_W} {tys : List (ClassId × FieldType)} {s : State} {H : Heap} {b : Nat} {fs : List Value} {As : List Value} (hP : va_P D vwCl ws H) (hK : va_K D vwCl tys s) (he : ws[0]? = some (b, .inr (0, fs))) : PreV s H RX1 b (va_Pc (.ref b :: As) (zx_Rd D ws tys)) As := ⟨zx_Rd.blind, va_recv hK hP (ci := 0) (q := (RX1, TX1, 1)) (q0 := 0) rfl he, fun U hU hW => ⟨rfl, by rw [hU]; exact hP, va_K.moved hW.alike hK⟩⟩
theorem zx_preN {s : State} {H : Heap} {As : List Value} : PreS s H (va_Pc As (fun _ => True)) As := ⟨fun _ _ _ _ q => q, fun _ _ _ => ⟨rfl, trivial⟩⟩
theorem zx_sub {a b c : Nat} (h : b ≤ a) (e : a - b = c) : nI a - nI b = nI c := by rw [pk_sub h, e]
theorem zx_add {a b c : Nat} (e : a + b = c) : nI a + nI b = nI c := by rw [nI_add, e]
theorem zx_mul {a b c : Nat} (e : a * b = c) : nI a * nI b = nI c := by rw [pk_mul, e]
theorem zx_div {a b c : Nat} (ha : a < 2 ^ 31) (h0 : 0 < b) (hb : b < 2 ^ 31) (e : a / b = c) : nI a / nI b = nI c := by rw [pk_div ha h0 hb, e]
theorem zx_inc {a c : Nat} (e : a + 1 = c) : nI a + Int32.ofInt 1 = nI c := by
  rw [← e]
  exact nI_1 a
theorem zx_dec {a c : Nat} (e : c + 1 = a) : nI a + Int32.ofInt (-1) = nI c := by
  rw [← e]
  exact pk_m1 c
theorem zx_ld {f : Nat → Int32} {w : Nat → Nat} {n : Nat} (hf : ∀ j, j < n → f j = nI (w j)) {j : Nat} (hj : j < n) (hn : n < 2 ^ 31) : f (nI j).toNatClampNeg = nI (w j) := by
  rw [nI_clamp (by omega)]
  exact hf j hj
theorem zx_lt {a b : Nat} (h : a ≤ b) (hb : b < 1000000) : a < 2 ^ 31 := by omega
/-- the widths: four, from 1 to 8 -/
def zx_ok (f : Nat → Int32) (w : Nat → Nat) : Prop := (∀ j, j < 4 → f j = nI (w j)) ∧ (∀ j, j < 4 → 1 ≤ w j ∧ w j ≤ 8)
end
section
set_option maxRecDepth 100000
/-! RSSUtils: combins and getRSSvalue, what they compute -/
theorem zx_mn_le (n r : Nat) : zx_mn n r ≤ r := by
  unfold zx_mn
  by_cases h : n - r ≤ r
  · rw [if_pos h]; exact h
  · rw [if_neg h]; exact Nat.le_refl r
theorem zx_cP_lt (n t : Nat) (hn : n < 1000) (ht : t ≤ 1) : zx_cP n t < 1000 := by
  rcases (show t = 0 ∨ t = 1 by omega) with h | h
  · rw [h]; exact (by decide : 1 < 1000)
  · rw [h]
    show 1 * (n - 0) / (0 + 1) < 1000
    rw [Nat.one_mul, Nat.div_one]
    omega
theorem zx_lt1 {a b : Nat} (ha : a < 1000) (hb : b < 1000) : a * b < 2 ^ 31 := Nat.lt_of_le_of_lt (Nat.mul_le_mul (Nat.le_of_lt ha) (Nat.le_of_lt hb)) (by decide)
theorem zx_or : ∀ bar, bar < 3 → ∀ mk, mk < 2 ^ bar → (nI mk) ||| ((nI 1) <<< ((nI bar) &&& 31)) = nI (mk + if 1 = 1 then 2 ^ bar else 0) := by decide +kernel
theorem zx_nand0 : ∀ bar, bar < 3 → ∀ mk, mk < 4 → mk < 2 ^ bar → (nI (mk + 2 ^ bar)) &&& (((nI 1) <<< ((nI bar) &&& 31)) ^^^ (-1)) = nI mk ∧ (nI mk) &&& (((nI 1) <<< ((nI bar) &&& 31)) ^^^ (-1)) = nI mk := by decide +kernel
theorem zx_nand (bar : Nat) (hb : bar < 3) (mk : Nat) (h4 : mk < 4) (hm : mk < 2 ^ bar) (k : Nat) (hk : 1 ≤ k) : (nI (mk + if k = 1 then 2 ^ bar else 0)) &&& (((nI 1) <<< ((nI bar) &&& 31)) ^^^ (-1)) = nI (mk + if k + 1 = 1 then 2 ^ bar else 0) := by
  have h := zx_nand0 bar hb mk h4 hm
  rw [if_neg (show ¬ k + 1 = 1 by omega)]
  by_cases h1 : k = 1
  · rw [if_pos h1]; exact h.1
  · rw [if_neg h1]; exact h.2
theorem zx_mk_lt (w : Nat → Nat) (bar mk : Nat) (h : mk < 2 ^ bar) : zx_mk w bar mk < 2 ^ (bar + 1) := by
  unfold zx_mk
  rw [Nat.pow_succ]
  by_cases h1 : w bar = 1
  · rw [if_pos h1]; omega
  · rw [if_neg h1]; omega
/-- the sum from a place on -/
def zx_tl (w : Nat → Nat) (bar : Nat) : Nat := match bar with
  | 0 => w 0 + w 1 + w 2 + w 3
  | 1 => w 1 + w 2 + w 3
  | 2 => w 2 + w 3
  | _ => w 3
theorem zx_tl_step (w : Nat → Nat) (h : ∀ j, j < 4 → 1 ≤ w j ∧ w j ≤ 8) (bar : Nat) (hb : bar < 3) : zx_tl w bar = w bar + zx_tl w (bar + 1) ∧ 3 - bar ≤ zx_tl w (bar + 1) ∧ zx_tl w bar < 100 ∧ 1 ≤ w bar := by
  have b0 := h 0 (by decide)
  have b1 := h 1 (by decide)
  have b2 := h 2 (by decide)
  have b3 := h 3 (by decide)
  rcases (show bar = 0 ∨ bar = 1 ∨ bar = 2 by omega) with e | e | e
  · subst e
    show w 0 + w 1 + w 2 + w 3 = w 0 + (w 1 + w 2 + w 3) ∧ 3 - 0 ≤ w 1 + w 2 + w 3 ∧ w 0 + w 1 + w 2 + w 3 < 100 ∧ 1 ≤ w 0
    omega
  · subst e
    show w 1 + w 2 + w 3 = w 1 + (w 2 + w 3) ∧ 3 - 1 ≤ w 2 + w 3 ∧ w 1 + w 2 + w 3 < 100 ∧ 1 ≤ w 1
    omega
  · subst e
    show w 2 + w 3 = w 2 + w 3 ∧ 3 - 2 ≤ w 3 ∧ w 2 + w 3 < 100 ∧ 1 ≤ w 2
    omega
def zx_pf (w : Nat → Nat) : Nat → Nat
  | 0 => 0
  | i + 1 => zx_pf w i + w i
theorem zx_pf4 (w : Nat → Nat) : zx_pf w 4 = zx_sm w := by
  show 0 + w 0 + w 1 + w 2 + w 3 = w 0 + w 1 + w 2 + w 3
  omega
set_option maxHeartbeats 4000000 in
/-- combins(n, r), r at most 2 -/
theorem met_combins (l : Launch) (n r : Nat) (h1 : r ≤ n) (h2 : r ≤ 2) (h3 : n < 1000) : Met l yX2_combins wsX2_combins ({ frames := 0, cells := 0, slots := 0, locals := 0 }) (va_Pc [.int (nI n), .int (nI r)] (fun _ => True)) (QcRead (nI (zx_cb n r))) 0 0 (fun _ => False) := by
  refine Met.ofW (cc := cX2_combins) (maxL := 7) (ret := (some .int)) (by decide) rfl ?_
  intro p e s m args below meth c s₁ B hml hv
  obtain ⟨ha, -⟩ := hv
  have hx := B.exec
  have hb := B.bytes
  have hr := B.returns
  have hts := atoms_spec (ws := wsX2_combins) B.pre
  have hts : ∀ w ∈ lw_all, w.before _ s = true := fun w h => hts w (List.mem_cons_of_mem _ h)
  have hown : s.vm.findClass RX2 = some m.cls := findClass_of_methodNamed B.named
  have hlocks := B.notSynchronized
  subst ha
  have hl := lv_entry [.int (nI n), .int (nI r)] (n := 7) (Nat.le_of_ble_eq_true rfl)
  rw [lg_entry_eq]
  generalize (lg_sl [.int (nI n), .int (nI r)] ++ List.replicate (7 - (lg_sl [.int (nI n), .int (nI r)]).length) Slot.unset).toArray = ls at hl ⊢
  have hl : lv_has ls 7 [(0, .int (nI n)), (1, .int (nI r))] := hl
  have hm2 := zx_mn_le n r
  have K31 : ∀ (mx mn : Nat), mn = zx_mn n r → mx + mn = n → ∀ (k t : Nat), t + k = mn → ∀ (ls : Array Slot), lv_has ls 7 [(2, .int (nI mx)), (3, .int (nI mn)), (4, .int (nI (zx_cP n t))), (5, .int (nI (t + 1))), (6, .int (nI (n - t)))] → W p l e (headSpec wsX2_combins ({ frames := 0, cells := 0, slots := 0, locals := 0 })).room s m ([.int (nI n), .int (nI r)] : List Value).toArray below meth c s.heap [] 0 0 (MQ below (QcRead (nI (zx_cb n r))) ([.int (nI n), .int (nI r)] : List Value).toArray s 0 0 (fun _ => False)) (F0 m 31 ls []) := by
    intro mx mn hmn hmx k
    induction k with
    | zero =>
      intro t ht ls hl
      refine lv_iload hx hb dX2_combins_31 (lv_at hl 4 rfl) ?_
      refine lv_iload_n hx hb dX2_combins_33 rfl (lv_at hl 0 rfl) ?_
      refine lv_icmp_le (tgt := 66) hx hb dX2_combins_34 (by decide) (fun c_34 => ?_) (fun c_34 => absurd ((nI_leI (a := n - t) (b := mx) (by omega) (by omega)).mpr (by omega)) c_34)
      refine lv_iload hx hb dX2_combins_66 (lv_at hl 3 rfl) ?_
      refine lv_iload_n hx hb dX2_combins_68 rfl (lv_at hl 1 rfl) ?_
      refine lv_icmp_gt (tgt := 85) hx hb dX2_combins_69 (by decide) (fun c_69 => ?_) (fun c_69 => absurd ((nI_ltI (a := mn) (b := t + 1) (by omega) (by omega)).mpr (by omega)) c_69)
      refine lv_iload hx hb dX2_combins_85 (lv_at hl 2 rfl) ?_
      exact W.iret (v := nI (zx_cP n t)) hx hb hr (fun u9 hu9 hw9 => ⟨congrArg (fun z => Outcome.returned (some (Value.int z))) (by rw [show t = zx_mn n r by omega]; rfl), hu9⟩) (fun q h9 => by cases h9) dX2_combins_87
    | succ k ih =>
      intro t ht ls hl
      have hcp := zx_cP_lt n t h3 (by omega)
      refine lv_iload hx hb dX2_combins_31 (lv_at hl 4 rfl) ?_
      refine lv_iload_n hx hb dX2_combins_33 rfl (lv_at hl 0 rfl) ?_
      refine lv_icmp_le (tgt := 66) hx hb dX2_combins_34 (by decide) (fun c_34 => absurd ((nI_leI (a := n - t) (b := mx) (by omega) (by omega)).mp c_34) (by omega)) (fun c_34 => ?_)
      refine lv_iload hx hb dX2_combins_37 (lv_at hl 2 rfl) ?_
      refine lv_iload hx hb dX2_combins_39 (lv_at hl 4 rfl) ?_
      refine lv_imul hx hb dX2_combins_41 ?_
      refine zx_tp (y := nI ((zx_cP n t) * (n - t))) (zx_mul rfl) ?_
      refine lv_istore (lv' := [(4, .int (nI ((zx_cP n t) * (n - t)))), (2, .int (nI mx)), (3, .int (nI mn)), (5, .int (nI (t + 1))), (6, .int (nI (n - t)))]) hx hb dX2_combins_42 hl (by decide) rfl (fun ls hl => ?_)
      refine lv_iload hx hb dX2_combins_44 (lv_at hl 3 rfl) ?_
      refine lv_iload_n hx hb dX2_combins_46 rfl (lv_at hl 2 rfl) ?_
      refine lv_icmp_gt (tgt := 60) hx hb dX2_combins_47 (by decide) (fun c_47 => absurd ((nI_ltI (a := mn) (b := t + 1) (by omega) (by omega)).mp c_47) (by omega)) (fun c_47 => ?_)
      refine lv_iload hx hb dX2_combins_50 (lv_at hl 0 rfl) ?_
      refine lv_iload hx hb dX2_combins_52 (lv_at hl 3 rfl) ?_
      refine lv_idiv hx hb dX2_combins_54 (nI_ne0 (by omega) (by omega)) ?_
      refine zx_tp (y := nI (zx_cP n (t + 1))) (zx_div (zx_lt1 hcp (by omega)) (by omega) (by omega) rfl) ?_
      refine lv_istore (lv' := [(4, .int (nI (zx_cP n (t + 1)))), (2, .int (nI mx)), (3, .int (nI mn)), (5, .int (nI (t + 1))), (6, .int (nI (n - t)))]) hx hb dX2_combins_55 hl (by decide) rfl (fun ls hl => ?_)
      refine lv_iinc (v := nI (t + 1 + 1)) (lv' := [(5, .int (nI (t + 1 + 1))), (4, .int (nI (zx_cP n (t + 1)))), (2, .int (nI mx)), (3, .int (nI mn)), (6, .int (nI (n - t)))]) hx hb dX2_combins_57 hl (k := 3) rfl (zx_inc rfl) (by decide) rfl (fun ls hl => ?_)
      refine lv_iinc (v := nI (n - (t + 1))) (lv' := [(6, .int (nI (n - (t + 1)))), (5, .int (nI (t + 1 + 1))), (4, .int (nI (zx_cP n (t + 1)))), (2, .int (nI mx)), (3, .int (nI mn))]) hx hb dX2_combins_60 hl (k := 4) rfl (zx_dec (by omega)) (by decide) rfl (fun ls hl => ?_)
      refine lv_goto (tgt := 31) hx hb dX2_combins_63 (by decide) ?_
      exact ih (t + 1) (by omega) ls (lv_sub hl [3, 4, 2, 1, 0] rfl)
  refine lv_iload_n hx hb dX2_combins_0 rfl (lv_at hl 0 rfl) ?_
  refine lv_iload_n hx hb dX2_combins_1 rfl (lv_at hl 1 rfl) ?_
  refine lv_isub hx hb dX2_combins_2 ?_
  refine zx_tp (y := nI (n - r)) (zx_sub (by omega) rfl) ?_
  refine lv_iload_n hx hb dX2_combins_3 rfl (lv_at hl 1 rfl) ?_
  refine lv_icmp_le (tgt := 16) hx hb dX2_combins_4 (by decide) (fun c_4 => ?_) (fun c_4 => ?_)
  ·
    have c_4 : n - r ≤ r := (nI_leI (a := n - r) (b := r) (by omega) (by omega)).mp c_4
    have hm : zx_mn n r = n - r := if_pos c_4
    refine lv_iload_n hx hb dX2_combins_16 rfl (lv_at hl 0 rfl) ?_
    refine lv_iload_n hx hb dX2_combins_17 rfl (lv_at hl 1 rfl) ?_
    refine lv_isub hx hb dX2_combins_18 ?_
    refine zx_tp (y := nI (n - r)) (zx_sub (by omega) rfl) ?_
    refine lv_istore_n (lv' := [(3, .int (nI (n - r))), (0, .int (nI n)), (1, .int (nI r))]) hx hb dX2_combins_19 rfl hl (by decide) rfl (fun ls hl => ?_)
    refine lv_iload_n hx hb dX2_combins_20 rfl (lv_at hl 2 rfl) ?_
    refine lv_istore_n (lv' := [(2, .int (nI r)), (3, .int (nI (n - r))), (0, .int (nI n)), (1, .int (nI r))]) hx hb dX2_combins_21 rfl hl (by decide) rfl (fun ls hl => ?_)
    refine lv_iconst (v := nI 1) hx hb dX2_combins_22 (by decide) ?_
    refine lv_istore (lv' := [(4, .int (nI 1)), (2, .int (nI r)), (3, .int (nI (n - r))), (0, .int (nI n)), (1, .int (nI r))]) hx hb dX2_combins_23 hl (by decide) rfl (fun ls hl => ?_)
    refine lv_iconst (v := nI 1) hx hb dX2_combins_25 (by decide) ?_
    refine lv_istore (lv' := [(5, .int (nI 1)), (4, .int (nI 1)), (2, .int (nI r)), (3, .int (nI (n - r))), (0, .int (nI n)), (1, .int (nI r))]) hx hb dX2_combins_26 hl (by decide) rfl (fun ls hl => ?_)
    refine lv_iload_n hx hb dX2_combins_28 rfl (lv_at hl 4 rfl) ?_
    refine lv_istore (lv' := [(6, .int (nI n)), (5, .int (nI 1)), (4, .int (nI 1)), (2, .int (nI r)), (3, .int (nI (n - r))), (0, .int (nI n)), (1, .int (nI r))]) hx hb dX2_combins_29 hl (by decide) rfl (fun ls hl => ?_)
    exact K31 (r) (n - r) hm.symm (by omega) (n - r) 0 (Nat.zero_add _) ls (lv_sub hl [3, 4, 2, 1, 0] rfl)
  ·
    have c_4 : ¬ (n - r ≤ r) := fun h9 => c_4 ((nI_leI (a := n - r) (b := r) (by omega) (by omega)).mpr h9)
    have hm : zx_mn n r = r := if_neg c_4
    refine lv_iload_n hx hb dX2_combins_7 rfl (lv_at hl 1 rfl) ?_
    refine lv_istore_n (lv' := [(3, .int (nI r)), (0, .int (nI n)), (1, .int (nI r))]) hx hb dX2_combins_8 rfl hl (by decide) rfl (fun ls hl => ?_)
    refine lv_iload_n hx hb dX2_combins_9 rfl (lv_at hl 1 rfl) ?_
    refine lv_iload_n hx hb dX2_combins_10 rfl (lv_at hl 2 rfl) ?_
    refine lv_isub hx hb dX2_combins_11 ?_
    refine zx_tp (y := nI (n - r)) (zx_sub (by omega) rfl) ?_
    refine lv_istore_n (lv' := [(2, .int (nI (n - r))), (3, .int (nI r)), (0, .int (nI n)), (1, .int (nI r))]) hx hb dX2_combins_12 rfl hl (by decide) rfl (fun ls hl => ?_)
    refine lv_goto (tgt := 22) hx hb dX2_combins_13 (by decide) ?_
    refine lv_iconst (v := nI 1) hx hb dX2_combins_22 (by decide) ?_
    refine lv_istore (lv' := [(4, .int (nI 1)), (2, .int (nI (n - r))), (3, .int (nI r)), (0, .int (nI n)), (1, .int (nI r))]) hx hb dX2_combins_23 hl (by decide) rfl (fun ls hl => ?_)
    refine lv_iconst (v := nI 1) hx hb dX2_combins_25 (by decide) ?_
    refine lv_istore (lv' := [(5, .int (nI 1)), (4, .int (nI 1)), (2, .int (nI (n - r))), (3, .int (nI r)), (0, .int (nI n)), (1, .int (nI r))]) hx hb dX2_combins_26 hl (by decide) rfl (fun ls hl => ?_)
    refine lv_iload_n hx hb dX2_combins_28 rfl (lv_at hl 4 rfl) ?_
    refine lv_istore (lv' := [(6, .int (nI n)), (5, .int (nI 1)), (4, .int (nI 1)), (2, .int (nI (n - r))), (3, .int (nI r)), (0, .int (nI n)), (1, .int (nI r))]) hx hb dX2_combins_29 hl (by decide) rfl (fun ls hl => ?_)
    exact K31 (n - r) (r) hm.symm (by omega) (r) 0 (Nat.zero_add _) ls (lv_sub hl [3, 4, 2, 1, 0] rfl)
set_option maxHeartbeats 4000000 in
/-- getRSSvalue: the inmost loop -/
theorem rs_183 {p : Program} {l : Launch} {e : Env} {s : State} {m : MethodId} {args : Array Value} {below : List Frame} {meth : Method} {c : Code} {Q : State → Prop} {h0 : Nat} (hx : p.tables.exec = Jvm.exec) (hb : c.code = cX2_getRSSvalue) (hml : c.maxLocals = 12) (hown : s.vm.findClass RX2 = some m.cls) (hts : ∀ w ∈ lw_all, w.before args s = true) (N w bar M nr mq : Nat) (V SV : Int32) (hbar : bar < 2) (hw : w + (3 - bar) ≤ N) (hN : N < 100) : ∀ (k x acc : Nat), x - M = k → x + (2 - bar) ≤ N - w → M < 100 → (∀ (ls : Array Slot), lv_has ls 12 [(0, .ref h0), (1, .int (nI M)), (2, .int (nI nr)), (3, .int (nI N)), (4, .int V), (5, .int (nI mq)), (6, .int (nI 4)), (7, .int (nI bar)), (8, .int (nI w)), (9, .int SV), (10, .int (nI (zx_ls (N - w) bar k x acc)))] → W p l e (headSpec wsX2_getRSSvalue ({ frames := 1, cells := 0, slots := 0, locals := 26 })).room s m args below meth c s.heap [] 0 0 Q (F0 m 219 ls [])) → ∀ (ls : Array Slot), lv_has ls 12 [(0, .ref h0), (1, .int (nI M)), (2, .int (nI nr)), (3, .int (nI N)), (4, .int V), (5, .int (nI mq)), (6, .int (nI 4)), (7, .int (nI bar)), (8, .int (nI w)), (9, .int SV), (10, .int (nI acc)), (11, .int (nI x))] → W p l e (headSpec wsX2_getRSSvalue ({ frames := 1, cells := 0, slots := 0, locals := 26 })).room s m args below meth c s.heap [] 0 0 Q (F0 m 183 ls []) := by
  intro k
  induction k with
  | zero =>
    intro x acc hk hxx hM KK ls hl
    refine lv_iload hx hb dX2_getRSSvalue_183 (lv_at hl 11 rfl) ?_
    refine lv_iload_n hx hb dX2_getRSSvalue_185 rfl (lv_at hl 1 rfl) ?_
    refine lv_icmp_le (tgt := 219) hx hb dX2_getRSSvalue_186 (by decide) (fun c_186 => ?_) (fun c_186 => absurd ((nI_leI (a := x) (b := M) (by omega) (by omega)).mpr (by omega)) c_186)
    exact KK ls (lv_sub hl [0, 1, 2, 3, 4, 5, 6, 7, 8, 9, 10] rfl)
  | succ k ih =>
    intro x acc hk hxx hM KK ls hl
    refine lv_iload hx hb dX2_getRSSvalue_183 (lv_at hl 11 rfl) ?_
    refine lv_iload_n hx hb dX2_getRSSvalue_185 rfl (lv_at hl 1 rfl) ?_
    refine lv_icmp_le (tgt := 219) hx hb dX2_getRSSvalue_186 (by decide) (fun c_186 => absurd ((nI_leI (a := x) (b := M) (by omega) (by omega)).mp c_186) (by omega)) (fun c_186 => ?_)
    refine lv_iload hx hb dX2_getRSSvalue_189 (lv_at hl 10 rfl) ?_
    refine lv_iload_n hx hb dX2_getRSSvalue_191 rfl (lv_at hl 3 rfl) ?_
    refine lv_iload hx hb dX2_getRSSvalue_192 (lv_at hl 8 rfl) ?_
    refine lv_isub hx hb dX2_getRSSvalue_194 ?_
    refine zx_tp (y := nI (N - w)) (zx_sub (by omega) rfl) ?_
    refine lv_iload hx hb dX2_getRSSvalue_195 (lv_at hl 11 rfl) ?_
    refine lv_isub hx hb dX2_getRSSvalue_197 ?_
    refine zx_tp (y := nI (N - w - x)) (zx_sub (by omega) rfl) ?_
    refine lv_iconst (v := nI 1) hx hb dX2_getRSSvalue_198 (by decide) ?_
    refine lv_isub hx hb dX2_getRSSvalue_199 ?_
    refine zx_tp (y := nI (N - w - x - 1)) (zx_sub (by omega) rfl) ?_
    refine lv_iload hx hb dX2_getRSSvalue_200 (lv_at hl 6 rfl) ?_
    refine lv_iload hx hb dX2_getRSSvalue_202 (lv_at hl 7 rfl) ?_
    refine lv_isub hx hb dX2_getRSSvalue_204 ?_
    refine zx_tp (y := nI (4 - bar)) (zx_sub (by omega) rfl) ?_
    refine lv_iconst (v := nI 3) hx hb dX2_getRSSvalue_205 (by decide) ?_
    refine lv_isub hx hb dX2_getRSSvalue_206 ?_
    refine zx_tp (y := nI (1 - bar)) (zx_sub (by omega) (by omega)) ?_
    refine zx_callR (W.runS (As := [.int (nI (N - w - x - 1)), .int (nI (1 - bar))]) (rest := [.int (nI acc)]) ⟨hx, hb, hml, hown, hts⟩ (met_combins l (N - w - x - 1) (1 - bar) (by omega) (by omega) (by omega)) (va_cwS 2 hts (lw_S q61 q62 q5 q63) rfl rfl rfl (by decide +kernel) ⟨Nat.le_of_ble_eq_true rfl, Nat.le_of_ble_eq_true rfl⟩) (zx_preN) rfl rfl hl.1 rfl (lv_room (Nat.le_of_ble_eq_true rfl)) dX2_getRSSvalue_207 ⟨Nat.zero_le _, Nat.zero_le _⟩) ?_
    refine lv_iadd hx hb dX2_getRSSvalue_210 ?_
    refine zx_tp (y := nI (acc + (zx_cb (N - w - x - 1) (1 - bar)))) (zx_add rfl) ?_
    refine lv_istore (lv' := [(10, .int (nI (acc + (zx_cb (N - w - x - 1) (1 - bar))))), (0, .ref h0), (1, .int (nI M)), (2, .int (nI nr)), (3, .int (nI N)), (4, .int V), (5, .int (nI mq)), (6, .int (nI 4)), (7, .int (nI bar)), (8, .int (nI w)), (9, .int SV), (11, .int (nI x))]) hx hb dX2_getRSSvalue_211 hl (by decide) rfl (fun ls hl => ?_)
    refine lv_iinc (v := nI (x - 1)) (lv' := [(11, .int (nI (x - 1))), (10, .int (nI (acc + (zx_cb (N - w - x - 1) (1 - bar))))), (0, .ref h0), (1, .int (nI M)), (2, .int (nI nr)), (3, .int (nI N)), (4, .int V), (5, .int (nI mq)), (6, .int (nI 4)), (7, .int (nI bar)), (8, .int (nI w)), (9, .int SV)]) hx hb dX2_getRSSvalue_213 hl (k := 11) rfl (zx_dec (by omega)) (by decide) rfl (fun ls hl => ?_)
    refine lv_goto (tgt := 183) hx hb dX2_getRSSvalue_216 (by decide) ?_
    exact ih (x - 1) (acc + zx_cb (N - w - x - 1) (1 - bar)) (by omega) (by omega) hM KK ls (lv_sub hl [2, 3, 4, 5, 6, 7, 8, 9, 10, 11, 1, 0] rfl)
set_option maxHeartbeats 4000000 in
/-- getRSSvalue: what is too wide is taken off -/
theorem rs_155 {p : Program} {l : Launch} {e : Env} {s : State} {m : MethodId} {args : Array Value} {below : List Frame} {meth : Method} {c : Code} {Q : State → Prop} {h0 : Nat} (hx : p.tables.exec = Jvm.exec) (hb : c.code = cX2_getRSSvalue) (hml : c.maxLocals = 12) (hown : s.vm.findClass RX2 = some m.cls) (hts : ∀ w ∈ lw_all, w.before args s = true) (N w bar M nr mq : Nat) (V SV : Int32) (hbar : bar < 3) (hw : w + (3 - bar) ≤ N) (hN : N < 100) (hM : M < 100) (KK : ∀ (ls : Array Slot), lv_has ls 12 [(0, .ref h0), (1, .int (nI M)), (2, .int (nI nr)), (3, .int (nI N)), (4, .int V), (5, .int (nI mq)), (6, .int (nI 4)), (7, .int (nI bar)), (8, .int (nI w)), (9, .int (zx_fin (N - w) bar M SV))] → W p l e (headSpec wsX2_getRSSvalue ({ frames := 1, cells := 0, slots := 0, locals := 26 })).room s m args below meth c s.heap [] 0 0 Q (F0 m 248 ls [])) : ∀ (ls : Array Slot), lv_has ls 12 [(0, .ref h0), (1, .int (nI M)), (2, .int (nI nr)), (3, .int (nI N)), (4, .int V), (5, .int (nI mq)), (6, .int (nI 4)), (7, .int (nI bar)), (8, .int (nI w)), (9, .int SV)] → W p l e (headSpec wsX2_getRSSvalue ({ frames := 1, cells := 0, slots := 0, locals := 26 })).room s m args below meth c s.heap [] 0 0 Q (F0 m 155 ls []) := by
  intro ls hl
  refine lv_iload hx hb dX2_getRSSvalue_155 (lv_at hl 6 rfl) ?_
  refine lv_iload hx hb dX2_getRSSvalue_157 (lv_at hl 7 rfl) ?_
  refine lv_isub hx hb dX2_getRSSvalue_159 ?_
  refine zx_tp (y := nI (4 - bar)) (zx_sub (by omega) rfl) ?_
  refine lv_iconst (v := nI 1) hx hb dX2_getRSSvalue_160 (by decide) ?_
  refine lv_isub hx hb dX2_getRSSvalue_161 ?_
  refine zx_tp (y := nI (3 - bar)) (zx_sub (by omega) (by omega)) ?_
  refine lv_iconst (v := nI 1) hx hb dX2_getRSSvalue_162 (by decide) ?_
  refine lv_icmp_le (tgt := 237) hx hb dX2_getRSSvalue_163 (by decide) (fun c_163 => ?_) (fun c_163 => ?_)
  ·
    have c_163 : 3 - bar ≤ 1 := (nI_leI (a := 3 - bar) (b := 1) (by omega) (by omega)).mp c_163
    refine lv_iload_n hx hb dX2_getRSSvalue_237 rfl (lv_at hl 3 rfl) ?_
    refine lv_iload hx hb dX2_getRSSvalue_238 (lv_at hl 8 rfl) ?_
    refine lv_isub hx hb dX2_getRSSvalue_240 ?_
    refine zx_tp (y := nI (N - w)) (zx_sub (by omega) rfl) ?_
    refine lv_iload_n hx hb dX2_getRSSvalue_241 rfl (lv_at hl 1 rfl) ?_
    refine lv_icmp_le (tgt := 248) hx hb dX2_getRSSvalue_242 (by decide) (fun c_242 => ?_) (fun c_242 => ?_)
    ·
      have c_242 : N - w ≤ M := (nI_leI (a := N - w) (b := M) (by omega) (by omega)).mp c_242
      rw [show zx_fin (N - w) bar M SV = SV by unfold zx_fin; rw [if_neg (by omega), if_neg (by omega)]] at KK
      exact KK ls (lv_sub hl [0, 1, 2, 3, 4, 5, 6, 7, 8, 9] rfl)
    ·
      have c_242 : ¬ (N - w ≤ M) := fun h9 => c_242 ((nI_leI (a := N - w) (b := M) (by omega) (by omega)).mpr h9)
      rw [show zx_fin (N - w) bar M SV = SV + (-1) by unfold zx_fin; rw [if_neg (by omega), if_pos (by omega)]] at KK
      refine lv_iinc (v := SV + (-1)) (lv' := [(9, .int (SV + (-1))), (0, .ref h0), (1, .int (nI M)), (2, .int (nI nr)), (3, .int (nI N)), (4, .int V), (5, .int (nI mq)), (6, .int (nI 4)), (7, .int (nI bar)), (8, .int (nI w))]) hx hb dX2_getRSSvalue_245 hl (k := 9) rfl (rfl) (by decide) rfl (fun ls hl => ?_)
      exact KK ls (lv_sub hl [1, 2, 3, 4, 5, 6, 7, 8, 9, 0] rfl)
  ·
    have c_163 : ¬ (3 - bar ≤ 1) := fun h9 => c_163 ((nI_leI (a := 3 - bar) (b := 1) (by omega) (by omega)).mpr h9)
    rw [show zx_fin (N - w) bar M SV = SV - nI (zx_ls (N - w) bar (N - w - (2 - bar) - M) (N - w - (2 - bar)) 0 * (3 - bar)) by unfold zx_fin; rw [if_pos (by omega)]] at KK
    refine lv_iconst (v := nI 0) hx hb dX2_getRSSvalue_166 (by decide) ?_
    refine lv_istore (lv' := [(10, .int (nI 0)), (0, .ref h0), (1, .int (nI M)), (2, .int (nI nr)), (3, .int (nI N)), (4, .int V), (5, .int (nI mq)), (6, .int (nI 4)), (7, .int (nI bar)), (8, .int (nI w)), (9, .int SV)]) hx hb dX2_getRSSvalue_167 hl (by decide) rfl (fun ls hl => ?_)
    refine lv_iload_n hx hb dX2_getRSSvalue_169 rfl (lv_at hl 4 rfl) ?_
    refine lv_iload hx hb dX2_getRSSvalue_170 (lv_at hl 9 rfl) ?_
    refine lv_isub hx hb dX2_getRSSvalue_172 ?_
    refine zx_tp (y := nI (N - w)) (zx_sub (by omega) rfl) ?_
    refine lv_iload hx hb dX2_getRSSvalue_173 (lv_at hl 7 rfl) ?_
    refine lv_iload hx hb dX2_getRSSvalue_175 (lv_at hl 8 rfl) ?_
    refine lv_isub hx hb dX2_getRSSvalue_177 ?_
    refine zx_tp (y := nI (4 - bar)) (zx_sub (by omega) rfl) ?_
    refine lv_iconst (v := nI 2) hx hb dX2_getRSSvalue_178 (by decide) ?_
    refine lv_isub hx hb dX2_getRSSvalue_179 ?_
    refine zx_tp (y := nI (2 - bar)) (zx_sub (by omega) (by omega)) ?_
    refine lv_isub hx hb dX2_getRSSvalue_180 ?_
    refine zx_tp (y := nI (N - w - (2 - bar))) (zx_sub (by omega) rfl) ?_
    refine lv_istore (lv' := [(11, .int (nI (N - w - (2 - bar)))), (10, .int (nI 0)), (0, .ref h0), (1, .int (nI M)), (2, .int (nI nr)), (3, .int (nI N)), (4, .int V), (5, .int (nI mq)), (6, .int (nI 4)), (7, .int (nI bar)), (8, .int (nI w)), (9, .int SV)]) hx hb dX2_getRSSvalue_181 hl (by decide) rfl (fun ls hl => ?_)
    refine rs_183 hx hb hml hown hts N w bar M nr mq V SV (by omega) hw hN (N - w - (2 - bar) - M) (N - w - (2 - bar)) 0 rfl (by omega) hM (fun ls hl => ?_) ls (lv_sub hl [2, 3, 4, 5, 6, 7, 8, 9, 10, 11, 1, 0] rfl)
    refine lv_iload hx hb dX2_getRSSvalue_219 (lv_at hl 9 rfl) ?_
    refine lv_iload hx hb dX2_getRSSvalue_221 (lv_at hl 10 rfl) ?_
    refine lv_iload hx hb dX2_getRSSvalue_223 (lv_at hl 6 rfl) ?_
    refine lv_iconst (v := nI 1) hx hb dX2_getRSSvalue_225 (by decide) ?_
    refine lv_isub hx hb dX2_getRSSvalue_226 ?_
    refine zx_tp (y := nI 3) (zx_sub (by omega) (by omega)) ?_
    refine lv_iload hx hb dX2_getRSSvalue_227 (lv_at hl 7 rfl) ?_
    refine lv_isub hx hb dX2_getRSSvalue_229 ?_
    refine zx_tp (y := nI (3 - bar)) (zx_sub (by omega) rfl) ?_
    refine lv_imul hx hb dX2_getRSSvalue_230 ?_
    refine zx_tp (y := nI ((zx_ls (N - w) bar (N - w - (2 - bar) - M) (N - w - (2 - bar)) 0) * (3 - bar))) (zx_mul rfl) ?_
    refine lv_isub hx hb dX2_getRSSvalue_231 ?_
    refine lv_istore (lv' := [(9, .int (SV - (nI ((zx_ls (N - w) bar (N - w - (2 - bar) - M) (N - w - (2 - bar)) 0) * (3 - bar))))), (0, .ref h0), (1, .int (nI M)), (2, .int (nI nr)), (3, .int (nI N)), (4, .int V), (5, .int (nI mq)), (6, .int (nI 4)), (7, .int (nI bar)), (8, .int (nI w)), (10, .int (nI (zx_ls (N - w) bar (N - w - (2 - bar) - M) (N - w - (2 - bar)) 0)))]) hx hb dX2_getRSSvalue_232 hl (by decide) rfl (fun ls hl => ?_)
    refine lv_goto (tgt := 248) hx hb dX2_getRSSvalue_234 (by decide) ?_
    exact KK ls (lv_sub hl [1, 2, 3, 4, 5, 6, 7, 8, 9, 0] rfl)
set_option maxHeartbeats 4000000 in
/-- getRSSvalue: the loop over elmWidth -/
theorem rs_72 {p : Program} {l : Launch} {e : Env} {s : State} {m : MethodId} {args : Array Value} {below : List Frame} {meth : Method} {c : Code} {Q : State → Prop} {h0 : Nat} (hx : p.tables.exec = Jvm.exec) (hb : c.code = cX2_getRSSvalue) (hml : c.maxLocals = 12) (hown : s.vm.findClass RX2 = some m.cls) (hts : ∀ w ∈ lw_all, w.before args s = true) {D : va_G} {d0 : ClassId} {f : Nat → Int32} {w : Nat → Nat} (hf : zx_ok f w) (hP : va_P D vwCl [(h0, .inl (d0, 4, .inl f))] s.heap) (hK : va_K D vwCl [(d0, .int)] s) (N bar M nr mk : Nat) (V1 : Int32) (hbar : bar < 3) (hw : w bar + (3 - bar) ≤ N) (hN : N < 100) (hM : M < 100) (hnr : nr < 2) (hmk : mk < 2 ^ bar) (KK : ∀ (ls : Array Slot), lv_has ls 12 [(0, .ref h0), (1, .int (nI M)), (2, .int (nI nr)), (3, .int (nI N)), (4, .int V1), (5, .int (nI (zx_mk w bar mk))), (6, .int (nI 4)), (7, .int (nI bar)), (8, .int (nI (w bar)))] → W p l e (headSpec wsX2_getRSSvalue ({ frames := 1, cells := 0, slots := 0, locals := 26 })).room s m args below meth c s.heap [] 0 0 Q (F0 m 272 ls [])) : ∀ (n k : Nat) (V : Int32), k + n = w bar → 1 ≤ k → zx_in N bar M nr mk n k V = V1 → ∀ (ls : Array Slot), lv_has ls 12 [(0, .ref h0), (1, .int (nI M)), (2, .int (nI nr)), (3, .int (nI N)), (4, .int V), (5, .int (nI (mk + (if k = 1 then 2 ^ bar else 0)))), (6, .int (nI 4)), (7, .int (nI bar)), (8, .int (nI k))] → W p l e (headSpec wsX2_getRSSvalue ({ frames := 1, cells := 0, slots := 0, locals := 26 })).room s m args below meth c s.heap [] 0 0 Q (F0 m 72 ls []) := by
  have hmk4 : mk < 4 := Nat.lt_of_lt_of_le hmk (by rcases (show bar = 0 ∨ bar = 1 ∨ bar = 2 by omega) with h | h | h <;> rw [h] <;> decide)
  have hwb := hf.2 bar (by omega)
  intro n
  induction n with
  | zero =>
    intro k V hk h1k hV ls hl
    refine lv_iload hx hb dX2_getRSSvalue_72 (lv_at hl 8 rfl) ?_
    refine lv_aload_n hx hb dX2_getRSSvalue_74 rfl (lv_at hl 0 rfl) ?_
    refine lv_iload hx hb dX2_getRSSvalue_75 (lv_at hl 7 rfl) ?_
    refine va_iald hx hb hK hP 0 0 rfl rfl (vp_in_nI (by omega) (by decide)) dX2_getRSSvalue_77 ?_
    refine zx_tp (y := nI (w bar)) (zx_ld hf.1 (by omega) (by decide)) ?_
    refine lv_icmp_ge (tgt := 272) hx hb dX2_getRSSvalue_78 (by decide) (fun c_78 => ?_) (fun c_78 => absurd ((nI_leI (a := w bar) (b := k) (by omega) (by omega)).mpr (by omega)) c_78)
    have hk2 : w bar = k := hk.symm
    have hV2 : V = V1 := hV
    subst hV2
    refine KK ls ?_
    have e5 : zx_mk w bar mk = mk + (if k = 1 then 2 ^ bar else 0) := by unfold zx_mk; rw [hk2]
    rw [e5, hk2]
    exact lv_sub hl [0, 1, 2, 3, 4, 5, 6, 7, 8] rfl
  | succ n ih =>
    intro k V hk h1k hV ls hl
    have hp1 : 1 ≤ 2 ^ bar := Nat.one_le_two_pow
    have hq1 : (mk + (if k = 1 then 2 ^ bar else 0) < 1000) := by
      rcases (show bar = 0 ∨ bar = 1 ∨ bar = 2 by omega) with h | h | h <;> rw [h] <;> by_cases hk1 : k = 1 <;> simp [hk1] <;> omega
    refine lv_iload hx hb dX2_getRSSvalue_72 (lv_at hl 8 rfl) ?_
    refine lv_aload_n hx hb dX2_getRSSvalue_74 rfl (lv_at hl 0 rfl) ?_
    refine lv_iload hx hb dX2_getRSSvalue_75 (lv_at hl 7 rfl) ?_
    refine va_iald hx hb hK hP 0 0 rfl rfl (vp_in_nI (by omega) (by decide)) dX2_getRSSvalue_77 ?_
    refine zx_tp (y := nI (w bar)) (zx_ld hf.1 (by omega) (by decide)) ?_
    refine lv_icmp_ge (tgt := 272) hx hb dX2_getRSSvalue_78 (by decide) (fun c_78 => absurd ((nI_leI (a := w bar) (b := k) (by omega) (by omega)).mp c_78) (by omega)) (fun c_78 => ?_)
    refine lv_iload_n hx hb dX2_getRSSvalue_81 rfl (lv_at hl 3 rfl) ?_
    refine lv_iload hx hb dX2_getRSSvalue_82 (lv_at hl 8 rfl) ?_
    refine lv_isub hx hb dX2_getRSSvalue_84 ?_
    refine zx_tp (y := nI (N - k)) (zx_sub (by omega) rfl) ?_
    refine lv_iconst (v := nI 1) hx hb dX2_getRSSvalue_85 (by decide) ?_
    refine lv_isub hx hb dX2_getRSSvalue_86 ?_
    refine zx_tp (y := nI (N - k - 1)) (zx_sub (by omega) rfl) ?_
    refine lv_iload hx hb dX2_getRSSvalue_87 (lv_at hl 6 rfl) ?_
    refine lv_iload hx hb dX2_getRSSvalue_89 (lv_at hl 7 rfl) ?_
    refine lv_isub hx hb dX2_getRSSvalue_91 ?_
    refine zx_tp (y := nI (4 - bar)) (zx_sub (by omega) rfl) ?_
    refine lv_iconst (v := nI 2) hx hb dX2_getRSSvalue_92 (by decide) ?_
    refine lv_isub hx hb dX2_getRSSvalue_93 ?_
    refine zx_tp (y := nI (2 - bar)) (zx_sub (by omega) (by omega)) ?_
    refine zx_callR (W.runS (As := [.int (nI (N - k - 1)), .int (nI (2 - bar))]) (rest := []) ⟨hx, hb, hml, hown, hts⟩ (met_combins l (N - k - 1) (2 - bar) (by omega) (by omega) (by omega)) (va_cwS 2 hts (lw_S q61 q62 q5 q63) rfl rfl rfl (by decide +kernel) ⟨Nat.le_of_ble_eq_true rfl, Nat.le_of_ble_eq_true rfl⟩) (zx_preN) rfl rfl hl.1 rfl (lv_room (Nat.le_of_ble_eq_true rfl)) dX2_getRSSvalue_94 ⟨Nat.zero_le _, Nat.zero_le _⟩) ?_
    have K155 : ∀ (ls : Array Slot), lv_has ls 12 [(0, .ref h0), (1, .int (nI M)), (2, .int (nI nr)), (3, .int (nI N)), (4, .int V), (5, .int (nI (mk + (if k = 1 then 2 ^ bar else 0)))), (6, .int (nI 4)), (7, .int (nI bar)), (8, .int (nI k)), (9, .int (zx_s2 (N - k) bar (zx_z nr mk k)))] → W p l e (headSpec wsX2_getRSSvalue ({ frames := 1, cells := 0, slots := 0, locals := 26 })).room s m args below meth c s.heap [] 0 0 Q (F0 m 155 ls []) := by
      refine rs_155 hx hb hml hown hts N k bar M nr (mk + (if k = 1 then 2 ^ bar else 0)) V (zx_s2 (N - k) bar (zx_z nr mk k)) hbar (by omega) hN hM (fun ls hl => ?_)
      have hl : lv_has ls 12 [(0, .ref h0), (1, .int (nI M)), (2, .int (nI nr)), (3, .int (nI N)), (4, .int V), (5, .int (nI (mk + (if k = 1 then 2 ^ bar else 0)))), (6, .int (nI 4)), (7, .int (nI bar)), (8, .int (nI k)), (9, .int (zx_sb (N - k) bar M (zx_z nr mk k)))] := hl
      refine lv_iload hx hb dX2_getRSSvalue_248 (lv_at hl 4 rfl) ?_
      refine lv_iload hx hb dX2_getRSSvalue_250 (lv_at hl 9 rfl) ?_
      refine lv_iadd hx hb dX2_getRSSvalue_252 ?_
      refine lv_istore (lv' := [(4, .int (V + (zx_sb (N - k) bar M (zx_z nr mk k)))), (0, .ref h0), (1, .int (nI M)), (2, .int (nI nr)), (3, .int (nI N)), (5, .int (nI (mk + (if k = 1 then 2 ^ bar else 0)))), (6, .int (nI 4)), (7, .int (nI bar)), (8, .int (nI k)), (9, .int (zx_sb (N - k) bar M (zx_z nr mk k)))]) hx hb dX2_getRSSvalue_253 hl (by decide) rfl (fun ls hl => ?_)
      refine lv_iinc (v := nI (k + 1)) (lv' := [(8, .int (nI (k + 1))), (4, .int (V + (zx_sb (N - k) bar M (zx_z nr mk k)))), (0, .ref h0), (1, .int (nI M)), (2, .int (nI nr)), (3, .int (nI N)), (5, .int (nI (mk + (if k = 1 then 2 ^ bar else 0)))), (6, .int (nI 4)), (7, .int (nI bar)), (9, .int (zx_sb (N - k) bar M (zx_z nr mk k)))]) hx hb dX2_getRSSvalue_255 hl (k := 8) rfl (zx_inc rfl) (by decide) rfl (fun ls hl => ?_)
      refine lv_iload hx hb dX2_getRSSvalue_258 (lv_at hl 6 rfl) ?_
      refine lv_iconst (v := nI 1) hx hb dX2_getRSSvalue_260 (by decide) ?_
      refine lv_iload hx hb dX2_getRSSvalue_261 (lv_at hl 8 rfl) ?_
      refine lv_ishl hx hb dX2_getRSSvalue_263 ?_
      refine lv_iconst (v := (-1)) hx hb dX2_getRSSvalue_264 (by decide) ?_
      refine lv_ixor hx hb dX2_getRSSvalue_265 ?_
      refine lv_iand hx hb dX2_getRSSvalue_266 ?_
      refine zx_tp (y := nI (mk + (if k + 1 = 1 then 2 ^ bar else 0))) (zx_nand bar hbar mk hmk4 hmk k h1k) ?_
      refine lv_istore (lv' := [(5, .int (nI (mk + (if k + 1 = 1 then 2 ^ bar else 0)))), (8, .int (nI (k + 1))), (4, .int (V + (zx_sb (N - k) bar M (zx_z nr mk k)))), (0, .ref h0), (1, .int (nI M)), (2, .int (nI nr)), (3, .int (nI N)), (6, .int (nI 4)), (7, .int (nI bar)), (9, .int (zx_sb (N - k) bar M (zx_z nr mk k)))]) hx hb dX2_getRSSvalue_267 hl (by decide) rfl (fun ls hl => ?_)
      refine lv_goto (tgt := 72) hx hb dX2_getRSSvalue_269 (by decide) ?_
      exact ih (k + 1) (V + zx_sb (N - k) bar M (zx_z nr mk k)) (by omega) (by omega) hV ls (lv_sub hl [3, 4, 5, 6, 2, 0, 7, 8, 1] rfl)
    refine lv_istore (lv' := [(9, .int (zx_s1 (N - k) bar)), (0, .ref h0), (1, .int (nI M)), (2, .int (nI nr)), (3, .int (nI N)), (4, .int V), (5, .int (nI (mk + (if k = 1 then 2 ^ bar else 0)))), (6, .int (nI 4)), (7, .int (nI bar)), (8, .int (nI k))]) hx hb dX2_getRSSvalue_97 hl (by decide) rfl (fun ls hl => ?_)
    refine lv_iload_n hx hb dX2_getRSSvalue_99 rfl (lv_at hl 3 rfl) ?_
    have hz := zx_z_iff nr mk k
    refine lv_if_eq (tgt := 155) hx hb dX2_getRSSvalue_100 (by decide) (fun c_100 => ?_) (fun c_100 => ?_)
    ·
      have c_100 : nr = 0 := (nI_eq (a := nr) (b := 0) (by omega) (by omega)).mp c_100
      rw [show zx_s2 (N - k) bar (zx_z nr mk k) = zx_s1 (N - k) bar from by unfold zx_s2; rw [if_neg (by omega)]] at K155
      exact K155 ls (lv_sub hl [1, 2, 3, 4, 5, 6, 7, 8, 9, 0] rfl)
    ·
      have c_100 : ¬ (nr = 0) := fun h9 => c_100 ((nI_eq (a := nr) (b := 0) (by omega) (by omega)).mpr h9)
      refine lv_iload hx hb dX2_getRSSvalue_103 (lv_at hl 6 rfl) ?_
      refine lv_if_ne (tgt := 155) hx hb dX2_getRSSvalue_105 (by decide) (fun c_105 => ?_) (fun c_105 => ?_)
      ·
        have c_105 : ¬ (mk + (if k = 1 then 2 ^ bar else 0) = 0) := fun h9 => c_105 ((nI_eq (a := mk + (if k = 1 then 2 ^ bar else 0)) (b := 0) (by omega) (by omega)).mpr h9)
        have hz0 : zx_z nr mk k = 0 := hz.mpr (by
          by_cases hk1 : k = 1
          · exact Or.inr (Or.inr hk1)
          · rw [if_neg hk1] at c_105
            exact Or.inr (Or.inl (by omega)))
        rw [show zx_s2 (N - k) bar (zx_z nr mk k) = zx_s1 (N - k) bar from by unfold zx_s2; rw [if_neg (by omega)]] at K155
        exact K155 ls (lv_sub hl [1, 2, 3, 4, 5, 6, 7, 8, 9, 0] rfl)
      ·
        have c_105 : mk + (if k = 1 then 2 ^ bar else 0) = 0 := (nI_eq (a := mk + (if k = 1 then 2 ^ bar else 0)) (b := 0) (by omega) (by omega)).mp c_105
        have hk1 : ¬ k = 1 := fun h => by
          rw [if_pos h] at c_105
          omega
        have hz1 : zx_z nr mk k ≠ 0 := fun h => by
          rw [if_neg hk1] at c_105
          have := hz.mp h
          omega
        refine lv_iload_n hx hb dX2_getRSSvalue_108 rfl (lv_at hl 4 rfl) ?_
        refine lv_iload hx hb dX2_getRSSvalue_109 (lv_at hl 9 rfl) ?_
        refine lv_isub hx hb dX2_getRSSvalue_111 ?_
        refine zx_tp (y := nI (N - k)) (zx_sub (by omega) rfl) ?_
        refine lv_iload hx hb dX2_getRSSvalue_112 (lv_at hl 7 rfl) ?_
        refine lv_iload hx hb dX2_getRSSvalue_114 (lv_at hl 8 rfl) ?_
        refine lv_isub hx hb dX2_getRSSvalue_116 ?_
        refine zx_tp (y := nI (4 - bar)) (zx_sub (by omega) rfl) ?_
        refine lv_iconst (v := nI 1) hx hb dX2_getRSSvalue_117 (by decide) ?_
        refine lv_isub hx hb dX2_getRSSvalue_118 ?_
        refine zx_tp (y := nI (3 - bar)) (zx_sub (by omega) (by omega)) ?_
        refine lv_isub hx hb dX2_getRSSvalue_119 ?_
        refine zx_tp (y := nI (N - k - (3 - bar))) (zx_sub (by omega) rfl) ?_
        refine lv_iload hx hb dX2_getRSSvalue_120 (lv_at hl 7 rfl) ?_
        refine lv_iload hx hb dX2_getRSSvalue_122 (lv_at hl 8 rfl) ?_
        refine lv_isub hx hb dX2_getRSSvalue_124 ?_
        refine zx_tp (y := nI (4 - bar)) (zx_sub (by omega) rfl) ?_
        refine lv_iconst (v := nI 1) hx hb dX2_getRSSvalue_125 (by decide) ?_
        refine lv_isub hx hb dX2_getRSSvalue_126 ?_
        refine zx_tp (y := nI (3 - bar)) (zx_sub (by omega) (by omega)) ?_
        refine lv_icmp_lt (tgt := 155) hx hb dX2_getRSSvalue_127 (by decide) (fun c_127 => ?_) (fun c_127 => ?_)
        ·
          have c_127 : N - k - (3 - bar) < 3 - bar := (nI_ltI (a := N - k - (3 - bar)) (b := 3 - bar) (by omega) (by omega)).mp c_127
          rw [show zx_s2 (N - k) bar (zx_z nr mk k) = zx_s1 (N - k) bar from by unfold zx_s2; rw [if_neg (by omega)]] at K155
          exact K155 ls (lv_sub hl [1, 2, 3, 4, 5, 6, 7, 8, 9, 0] rfl)
        ·
          have c_127 : ¬ (N - k - (3 - bar) < 3 - bar) := fun h9 => c_127 ((nI_ltI (a := N - k - (3 - bar)) (b := 3 - bar) (by omega) (by omega)).mpr h9)
          refine lv_iload hx hb dX2_getRSSvalue_130 (lv_at hl 0 rfl) ?_
          refine lv_iload_n hx hb dX2_getRSSvalue_132 rfl (lv_at hl 4 rfl) ?_
          refine lv_iload hx hb dX2_getRSSvalue_133 (lv_at hl 9 rfl) ?_
          refine lv_isub hx hb dX2_getRSSvalue_135 ?_
          refine zx_tp (y := nI (N - k)) (zx_sub (by omega) rfl) ?_
          refine lv_iload hx hb dX2_getRSSvalue_136 (lv_at hl 7 rfl) ?_
          refine lv_iload hx hb dX2_getRSSvalue_138 (lv_at hl 8 rfl) ?_
          refine lv_isub hx hb dX2_getRSSvalue_140 ?_
          refine zx_tp (y := nI (4 - bar)) (zx_sub (by omega) rfl) ?_
          refine lv_isub hx hb dX2_getRSSvalue_141 ?_
          refine zx_tp (y := nI (N - k - (4 - bar))) (zx_sub (by omega) rfl) ?_
          refine lv_iload hx hb dX2_getRSSvalue_142 (lv_at hl 7 rfl) ?_
          refine lv_iload hx hb dX2_getRSSvalue_144 (lv_at hl 8 rfl) ?_
          refine lv_isub hx hb dX2_getRSSvalue_146 ?_
          refine zx_tp (y := nI (4 - bar)) (zx_sub (by omega) rfl) ?_
          refine lv_iconst (v := nI 2) hx hb dX2_getRSSvalue_147 (by decide) ?_
          refine lv_isub hx hb dX2_getRSSvalue_148 ?_
          refine zx_tp (y := nI (2 - bar)) (zx_sub (by omega) (by omega)) ?_
          refine zx_callR (W.runS (As := [.int (nI (N - k - (4 - bar))), .int (nI (2 - bar))]) (rest := [.int (zx_s1 (N - k) bar)]) ⟨hx, hb, hml, hown, hts⟩ (met_combins l (N - k - (4 - bar)) (2 - bar) (by omega) (by omega) (by omega)) (va_cwS 2 hts (lw_S q61 q62 q5 q63) rfl rfl rfl (by decide +kernel) ⟨Nat.le_of_ble_eq_true rfl, Nat.le_of_ble_eq_true rfl⟩) (zx_preN) rfl rfl hl.1 rfl (lv_room (Nat.le_of_ble_eq_true rfl)) dX2_getRSSvalue_149 ⟨Nat.zero_le _, Nat.zero_le _⟩) ?_
          refine lv_isub hx hb dX2_getRSSvalue_152 ?_
          refine lv_istore (lv' := [(9, .int ((zx_s1 (N - k) bar) - (nI (zx_cb (N - k - (4 - bar)) (2 - bar))))), (0, .ref h0), (1, .int (nI M)), (2, .int (nI nr)), (3, .int (nI N)), (4, .int V), (5, .int (nI (mk + (if k = 1 then 2 ^ bar else 0)))), (6, .int (nI 4)), (7, .int (nI bar)), (8, .int (nI k))]) hx hb dX2_getRSSvalue_153 hl (by decide) rfl (fun ls hl => ?_)
          rw [show zx_s2 (N - k) bar (zx_z nr mk k) = zx_s1 (N - k) bar - nI (zx_cb (N - k - (4 - bar)) (2 - bar)) from by unfold zx_s2; rw [if_pos (by omega)]] at K155
          exact K155 ls (lv_sub hl [1, 2, 3, 4, 5, 6, 7, 8, 9, 0] rfl)
set_option maxHeartbeats 4000000 in
/-- getRSSvalue(widths, M, nr) -/
theorem met_rss (l : Launch) (D : va_G) (h0 : Nat) (d0 : ClassId) (f : Nat → Int32) (w : Nat → Nat) (M nr : Nat) (hf : zx_ok f w) (hM : M < 100) (hnr : nr < 2) : Met l yX2_getRSSvalue wsX2_getRSSvalue ({ frames := 1, cells := 0, slots := 0, locals := 26 }) (va_Pc [.ref h0, .int (nI M), .int (nI nr)] (zx_Rd D [(h0, .inl (d0, 4, .inl f))] [(d0, .int)])) (QcRead (zx_rs w M nr)) 0 0 (fun _ => False) := by
  refine Met.ofW (cc := cX2_getRSSvalue) (maxL := 12) (ret := (some .int)) (by decide) rfl ?_
  intro p e s m args below meth c s₁ B hml hv
  obtain ⟨ha, hP, hK⟩ := hv
  have hx := B.exec
  have hb := B.bytes
  have hr := B.returns
  have hts := atoms_spec (ws := wsX2_getRSSvalue) B.pre
  have hts : ∀ w ∈ lw_all, w.before _ s = true := fun w h => hts w (List.mem_cons_of_mem _ h)
  have hown : s.vm.findClass RX2 = some m.cls := findClass_of_methodNamed B.named
  have hlocks := B.notSynchronized
  subst ha
  have hl := lv_entry [.ref h0, .int (nI M), .int (nI nr)] (n := 12) (Nat.le_of_ble_eq_true rfl)
  rw [lg_entry_eq]
  generalize (lg_sl [.ref h0, .int (nI M), .int (nI nr)] ++ List.replicate (12 - (lg_sl [.ref h0, .int (nI M), .int (nI nr)]).length) Slot.unset).toArray = ls at hl ⊢
  have hl : lv_has ls 12 [(0, .ref h0), (1, .int (nI M)), (2, .int (nI nr))] := hl
  have b0 := hf.2 0 (by decide)
  have b1 := hf.2 1 (by decide)
  have b2 := hf.2 2 (by decide)
  have b3 := hf.2 3 (by decide)
  have K51 : ∀ (k bar N mk : Nat) (V : Int32), bar + k = 3 → mk < 2 ^ bar → N = zx_tl w bar → zx_ou w M nr k bar N mk V = zx_rs w M nr → ∀ (ls : Array Slot), lv_has ls 12 [(0, .ref h0), (1, .int (nI M)), (2, .int (nI nr)), (3, .int (nI N)), (4, .int V), (5, .int (nI mk)), (6, .int (nI 4)), (7, .int (nI bar))] → W p l e (headSpec wsX2_getRSSvalue ({ frames := 1, cells := 0, slots := 0, locals := 26 })).room s m ([.ref h0, .int (nI M), .int (nI nr)] : List Value).toArray below meth c s.heap [] 0 0 (MQ below (QcRead (zx_rs w M nr)) ([.ref h0, .int (nI M), .int (nI nr)] : List Value).toArray s 0 0 (fun _ => False)) (F0 m 51 ls []) := by
    intro k
    induction k with
    | zero =>
      intro bar N mk V hbar hmk hN hV ls hl
      refine lv_iload hx hb dX2_getRSSvalue_51 (lv_at hl 7 rfl) ?_
      refine lv_iload hx hb dX2_getRSSvalue_53 (lv_at hl 6 rfl) ?_
      refine lv_iconst (v := nI 1) hx hb dX2_getRSSvalue_55 (by decide) ?_
      refine lv_isub hx hb dX2_getRSSvalue_56 ?_
      refine zx_tp (y := nI (4 - 1)) (zx_sub (by omega) rfl) ?_
      refine lv_icmp_ge (tgt := 283) hx hb dX2_getRSSvalue_57 (by decide) (fun c_57 => ?_) (fun c_57 => absurd ((nI_leI (a := 4 - 1) (b := bar) (by omega) (by omega)).mpr (by omega)) c_57)
      refine lv_iload hx hb dX2_getRSSvalue_283 (lv_at hl 4 rfl) ?_
      exact W.iret (v := V) hx hb hr (fun u9 hu9 hw9 => ⟨congrArg (fun z => Outcome.returned (some (Value.int z))) (hV), hu9⟩) (fun q h9 => by cases h9) dX2_getRSSvalue_285
    | succ k ih =>
      intro bar N mk V hbar hmk hN hV ls hl
      have hb3 : bar < 3 := by omega
      have ht := zx_tl_step w hf.2 bar hb3
      refine lv_iload hx hb dX2_getRSSvalue_51 (lv_at hl 7 rfl) ?_
      refine lv_iload hx hb dX2_getRSSvalue_53 (lv_at hl 6 rfl) ?_
      refine lv_iconst (v := nI 1) hx hb dX2_getRSSvalue_55 (by decide) ?_
      refine lv_isub hx hb dX2_getRSSvalue_56 ?_
      refine zx_tp (y := nI (4 - 1)) (zx_sub (by omega) rfl) ?_
      refine lv_icmp_ge (tgt := 283) hx hb dX2_getRSSvalue_57 (by decide) (fun c_57 => absurd ((nI_leI (a := 4 - 1) (b := bar) (by omega) (by omega)).mp c_57) (by omega)) (fun c_57 => ?_)
      refine lv_iconst (v := nI 1) hx hb dX2_getRSSvalue_60 (by decide) ?_
      refine lv_istore (lv' := [(8, .int (nI 1)), (0, .ref h0), (1, .int (nI M)), (2, .int (nI nr)), (3, .int (nI N)), (4, .int V), (5, .int (nI mk)), (6, .int (nI 4)), (7, .int (nI bar))]) hx hb dX2_getRSSvalue_61 hl (by decide) rfl (fun ls hl => ?_)
      refine lv_iload hx hb dX2_getRSSvalue_63 (lv_at hl 6 rfl) ?_
      refine lv_iconst (v := nI 1) hx hb dX2_getRSSvalue_65 (by decide) ?_
      refine lv_iload hx hb dX2_getRSSvalue_66 (lv_at hl 8 rfl) ?_
      refine lv_ishl hx hb dX2_getRSSvalue_68 ?_
      refine lv_ior hx hb dX2_getRSSvalue_69 ?_
      refine zx_tp (y := nI (mk + (if 1 = 1 then 2 ^ bar else 0))) (zx_or bar hb3 mk hmk) ?_
      refine lv_istore (lv' := [(5, .int (nI (mk + (if 1 = 1 then 2 ^ bar else 0)))), (8, .int (nI 1)), (0, .ref h0), (1, .int (nI M)), (2, .int (nI nr)), (3, .int (nI N)), (4, .int V), (6, .int (nI 4)), (7, .int (nI bar))]) hx hb dX2_getRSSvalue_70 hl (by decide) rfl (fun ls hl => ?_)
      refine rs_72 hx hb hml hown hts hf hP hK N bar M nr mk (zx_in N bar M nr mk (w bar - 1) 1 V) hb3 (by omega) (by omega) hM hnr hmk (fun ls hl => ?_) (w bar - 1) 1 V (by omega) (Nat.le_refl 1) rfl ls (lv_sub hl [2, 3, 4, 5, 6, 0, 7, 8, 1] rfl)
      refine lv_iload_n hx hb dX2_getRSSvalue_272 rfl (lv_at hl 3 rfl) ?_
      refine lv_iload hx hb dX2_getRSSvalue_273 (lv_at hl 8 rfl) ?_
      refine lv_isub hx hb dX2_getRSSvalue_275 ?_
      refine zx_tp (y := nI (N - (w bar))) (zx_sub (by omega) rfl) ?_
      refine lv_istore_n (lv' := [(3, .int (nI (N - (w bar)))), (0, .ref h0), (1, .int (nI M)), (2, .int (nI nr)), (4, .int (zx_in N bar M nr mk (w bar - 1) 1 V)), (5, .int (nI (zx_mk w bar mk))), (6, .int (nI 4)), (7, .int (nI bar)), (8, .int (nI (w bar)))]) hx hb dX2_getRSSvalue_276 rfl hl (by decide) rfl (fun ls hl => ?_)
      refine lv_iinc (v := nI (bar + 1)) (lv' := [(7, .int (nI (bar + 1))), (3, .int (nI (N - (w bar)))), (0, .ref h0), (1, .int (nI M)), (2, .int (nI nr)), (4, .int (zx_in N bar M nr mk (w bar - 1) 1 V)), (5, .int (nI (zx_mk w bar mk))), (6, .int (nI 4)), (8, .int (nI (w bar)))]) hx hb dX2_getRSSvalue_277 hl (k := 7) rfl (zx_inc rfl) (by decide) rfl (fun ls hl => ?_)
      refine lv_goto (tgt := 51) hx hb dX2_getRSSvalue_280 (by decide) ?_
      exact ih (bar + 1) (N - w bar) (zx_mk w bar mk) _ (by omega) (zx_mk_lt w bar mk hmk) (by omega) hV ls (lv_sub hl [2, 3, 4, 1, 5, 6, 7, 0] rfl)
  have K13 : ∀ (k i : Nat), i + k = 4 → ∀ (ls : Array Slot), lv_has ls 12 [(0, .ref h0), (1, .int (nI M)), (2, .int (nI nr)), (3, .int (nI (zx_pf w i))), (4, .ref h0), (5, .int (nI 4)), (6, .int (nI i))] → W p l e (headSpec wsX2_getRSSvalue ({ frames := 1, cells := 0, slots := 0, locals := 26 })).room s m ([.ref h0, .int (nI M), .int (nI nr)] : List Value).toArray below meth c s.heap [] 0 0 (MQ below (QcRead (zx_rs w M nr)) ([.ref h0, .int (nI M), .int (nI nr)] : List Value).toArray s 0 0 (fun _ => False)) (F0 m 13 ls []) := by
    intro k
    induction k with
    | zero =>
      intro i hi ls hl
      refine lv_iload hx hb dX2_getRSSvalue_13 (lv_at hl 6 rfl) ?_
      refine lv_iload hx hb dX2_getRSSvalue_15 (lv_at hl 5 rfl) ?_
      refine lv_icmp_ge (tgt := 38) hx hb dX2_getRSSvalue_17 (by decide) (fun c_17 => ?_) (fun c_17 => absurd ((nI_leI (a := 4) (b := i) (by omega) (by omega)).mpr (by omega)) c_17)
      refine lv_iconst (v := nI 0) hx hb dX2_getRSSvalue_38 (by decide) ?_
      refine lv_istore (lv' := [(4, .int (nI 0)), (0, .ref h0), (1, .int (nI M)), (2, .int (nI nr)), (3, .int (nI (zx_pf w i))), (5, .int (nI 4)), (6, .int (nI i))]) hx hb dX2_getRSSvalue_39 hl (by decide) rfl (fun ls hl => ?_)
      refine lv_iconst (v := nI 0) hx hb dX2_getRSSvalue_41 (by decide) ?_
      refine lv_istore (lv' := [(5, .int (nI 0)), (4, .int (nI 0)), (0, .ref h0), (1, .int (nI M)), (2, .int (nI nr)), (3, .int (nI (zx_pf w i))), (6, .int (nI i))]) hx hb dX2_getRSSvalue_42 hl (by decide) rfl (fun ls hl => ?_)
      refine lv_aload_n hx hb dX2_getRSSvalue_44 rfl (lv_at hl 2 rfl) ?_
      refine va_alen (v := nI 4) hx hb hK hP 0 0 rfl rfl rfl dX2_getRSSvalue_45 ?_
      refine lv_istore (lv' := [(6, .int (nI 4)), (5, .int (nI 0)), (4, .int (nI 0)), (0, .ref h0), (1, .int (nI M)), (2, .int (nI nr)), (3, .int (nI (zx_pf w i)))]) hx hb dX2_getRSSvalue_46 hl (by decide) rfl (fun ls hl => ?_)
      refine lv_iconst (v := nI 0) hx hb dX2_getRSSvalue_48 (by decide) ?_
      refine lv_istore (lv' := [(7, .int (nI 0)), (6, .int (nI 4)), (5, .int (nI 0)), (4, .int (nI 0)), (0, .ref h0), (1, .int (nI M)), (2, .int (nI nr)), (3, .int (nI (zx_pf w i)))]) hx hb dX2_getRSSvalue_49 hl (by decide) rfl (fun ls hl => ?_)
      have hi4 : i = 4 := hi
      exact K51 3 0 (zx_pf w i) 0 (nI 0) rfl (by decide) (by rw [hi4]; exact zx_pf4 w) (by rw [hi4, zx_pf4 w]; rfl) ls (lv_sub hl [4, 5, 6, 7, 3, 2, 1, 0] rfl)
    | succ k ih =>
      intro i hi ls hl
      refine lv_iload hx hb dX2_getRSSvalue_13 (lv_at hl 6 rfl) ?_
      refine lv_iload hx hb dX2_getRSSvalue_15 (lv_at hl 5 rfl) ?_
      refine lv_icmp_ge (tgt := 38) hx hb dX2_getRSSvalue_17 (by decide) (fun c_17 => absurd ((nI_leI (a := 4) (b := i) (by omega) (by omega)).mp c_17) (by omega)) (fun c_17 => ?_)
      refine lv_aload hx hb dX2_getRSSvalue_20 (lv_at hl 4 rfl) ?_
      refine lv_iload hx hb dX2_getRSSvalue_22 (lv_at hl 6 rfl) ?_
      refine va_iald hx hb hK hP 0 0 rfl rfl (vp_in_nI (by omega) (by decide)) dX2_getRSSvalue_24 ?_
      refine zx_tp (y := nI (w i)) (zx_ld hf.1 (by omega) (by decide)) ?_
      refine lv_istore (lv' := [(7, .int (nI (w i))), (0, .ref h0), (1, .int (nI M)), (2, .int (nI nr)), (3, .int (nI (zx_pf w i))), (4, .ref h0), (5, .int (nI 4)), (6, .int (nI i))]) hx hb dX2_getRSSvalue_25 hl (by decide) rfl (fun ls hl => ?_)
      refine lv_iload_n hx hb dX2_getRSSvalue_27 rfl (lv_at hl 4 rfl) ?_
      refine lv_iload hx hb dX2_getRSSvalue_28 (lv_at hl 0 rfl) ?_
      refine lv_iadd hx hb dX2_getRSSvalue_30 ?_
      refine zx_tp (y := nI (zx_pf w i + (w i))) (zx_add rfl) ?_
      refine lv_istore_n (lv' := [(3, .int (nI (zx_pf w i + (w i)))), (7, .int (nI (w i))), (0, .ref h0), (1, .int (nI M)), (2, .int (nI nr)), (4, .ref h0), (5, .int (nI 4)), (6, .int (nI i))]) hx hb dX2_getRSSvalue_31 rfl hl (by decide) rfl (fun ls hl => ?_)
      refine lv_iinc (v := nI (i + 1)) (lv' := [(6, .int (nI (i + 1))), (3, .int (nI (zx_pf w i + (w i)))), (7, .int (nI (w i))), (0, .ref h0), (1, .int (nI M)), (2, .int (nI nr)), (4, .ref h0), (5, .int (nI 4))]) hx hb dX2_getRSSvalue_32 hl (k := 7) rfl (zx_inc rfl) (by decide) rfl (fun ls hl => ?_)
      refine lv_goto (tgt := 13) hx hb dX2_getRSSvalue_35 (by decide) ?_
      exact ih (i + 1) (by omega) ls (lv_sub hl [3, 4, 5, 1, 6, 7, 0] rfl)
  refine lv_iconst (v := nI 0) hx hb dX2_getRSSvalue_0 (by decide) ?_
  refine lv_istore_n (lv' := [(3, .int (nI 0)), (0, .ref h0), (1, .int (nI M)), (2, .int (nI nr))]) hx hb dX2_getRSSvalue_1 rfl hl (by decide) rfl (fun ls hl => ?_)
  refine lv_aload_n hx hb dX2_getRSSvalue_2 rfl (lv_at hl 1 rfl) ?_
  refine lv_astore (lv' := [(4, .ref h0), (3, .int (nI 0)), (0, .ref h0), (1, .int (nI M)), (2, .int (nI nr))]) hx hb dX2_getRSSvalue_3 hl (by decide) rfl (fun ls hl => ?_)
  refine lv_aload hx hb dX2_getRSSvalue_5 (lv_at hl 0 rfl) ?_
  refine va_alen (v := nI 4) hx hb hK hP 0 0 rfl rfl rfl dX2_getRSSvalue_7 ?_
  refine lv_istore (lv' := [(5, .int (nI 4)), (4, .ref h0), (3, .int (nI 0)), (0, .ref h0), (1, .int (nI M)), (2, .int (nI nr))]) hx hb dX2_getRSSvalue_8 hl (by decide) rfl (fun ls hl => ?_)
  refine lv_iconst (v := nI 0) hx hb dX2_getRSSvalue_10 (by decide) ?_
  refine lv_istore (lv' := [(6, .int (nI 0)), (5, .int (nI 4)), (4, .ref h0), (3, .int (nI 0)), (0, .ref h0), (1, .int (nI M)), (2, .int (nI nr))]) hx hb dX2_getRSSvalue_11 hl (by decide) rfl (fun ls hl => ?_)
  exact K13 4 0 rfl ls (lv_sub hl [4, 5, 6, 3, 2, 1, 0] rfl)
end
section
set_option maxRecDepth 100000
/-! BarValueDesk: its methods that read only; the law's widest, sum, narrow -/
def zx_pm (w : Nat → Nat) : Nat → Nat
  | 0 => 0
  | i + 1 => if w i ≤ zx_pm w i then zx_pm w i else w i
/-- the widest -/
def zx_mx (w : Nat → Nat) : Nat := zx_pm w 4
theorem zx_pm_1 (w : Nat → Nat) (i : Nat) (h : w i ≤ zx_pm w i) : zx_pm w (i + 1) = zx_pm w i := if_pos h
theorem zx_pm_0 (w : Nat → Nat) (i : Nat) (h : ¬ (w i ≤ zx_pm w i)) : zx_pm w (i + 1) = w i := if_neg h
theorem zx_pm_le (w : Nat → Nat) (h : ∀ j, j < 4 → 1 ≤ w j ∧ w j ≤ 8) : ∀ i, i ≤ 4 → zx_pm w i ≤ 8 ∧ ∀ j, j < i → w j ≤ zx_pm w i := by
  intro i
  induction i with
  | zero => intro _; exact ⟨Nat.zero_le _, fun j hj => absurd hj (Nat.not_lt_zero j)⟩
  | succ i ih =>
    intro hi
    have h1 := ih (by omega)
    have h2 := h i (by omega)
    by_cases hc : w i ≤ zx_pm w i
    · rw [zx_pm_1 w i hc]
      refine ⟨h1.1, fun j hj => ?_⟩
      rcases Nat.lt_or_ge j i with q | q
      · exact h1.2 j q
      · rw [show j = i by omega]; exact hc
    · rw [zx_pm_0 w i hc]
      refine ⟨h2.2, fun j hj => ?_⟩
      rcases Nat.lt_or_ge j i with q | q
      · have := h1.2 j q; omega
      · rw [show j = i by omega]; exact Nat.le_refl _
theorem zx_mx_le (w : Nat → Nat) (h : ∀ j, j < 4 → 1 ≤ w j ∧ w j ≤ 8) : 1 ≤ zx_mx w ∧ zx_mx w ≤ 8 ∧ ∀ j, j < 4 → w j ≤ zx_mx w := by
  have h1 := zx_pm_le w h 4 (Nat.le_refl 4)
  have h2 := h1.2 0 (by decide)
  have h3 := h 0 (by decide)
  exact ⟨Nat.le_trans h3.1 h2, h1.1, h1.2⟩
theorem zx_sm_le (w : Nat → Nat) (h : ∀ j, j < 4 → 1 ≤ w j ∧ w j ≤ 8) : 4 ≤ zx_sm w ∧ zx_sm w ≤ 32 := by
  have b0 := h 0 (by decide)
  have b1 := h 1 (by decide)
  have b2 := h 2 (by decide)
  have b3 := h 3 (by decide)
  unfold zx_sm
  omega
/-- is one of four numbers 1 -/
def zx_n4 (a b c d : Nat) : Nat := if a = 1 ∨ b = 1 ∨ c = 1 ∨ d = 1 then 1 else 0
theorem zx_n4_1 {a b c d : Nat} (h : a = 1 ∨ b = 1 ∨ c = 1 ∨ d = 1) : zx_n4 a b c d = 1 := if_pos h
theorem zx_n4_0 {a b c d : Nat} (h : ¬ (a = 1 ∨ b = 1 ∨ c = 1 ∨ d = 1)) : zx_n4 a b c d = 0 := if_neg h
theorem zx_n4_iff (a b c d : Nat) : zx_n4 a b c d = 0 ↔ ¬ (a = 1 ∨ b = 1 ∨ c = 1 ∨ d = 1) := by
  by_cases h : a = 1 ∨ b = 1 ∨ c = 1 ∨ d = 1
  · rw [zx_n4_1 h]; exact ⟨fun q => absurd q (by decide), fun q => absurd h q⟩
  · rw [zx_n4_0 h]; exact ⟨fun _ => h, fun _ => rfl⟩
theorem zx_n4_lt (a b c d : Nat) : zx_n4 a b c d < 2 := by
  by_cases h : a = 1 ∨ b = 1 ∨ c = 1 ∨ d = 1
  · rw [zx_n4_1 h]; decide
  · rw [zx_n4_0 h]; decide
def zx_nr (w : Nat → Nat) : Nat := zx_n4 (w 0) (w 1) (w 2) (w 3)
theorem zx_nr_lt (w : Nat → Nat) : zx_nr w < 2 := zx_n4_lt _ _ _ _
theorem zx_nr_1 (w : Nat → Nat) (i : Nat) (hi : i < 4) (h : w i = 1) : zx_nr w = 1 := by
  refine zx_n4_1 ?_
  rcases (show i = 0 ∨ i = 1 ∨ i = 2 ∨ i = 3 by omega) with e | e | e | e
  · rw [e] at h; exact Or.inl h
  · rw [e] at h; exact Or.inr (Or.inl h)
  · rw [e] at h; exact Or.inr (Or.inr (Or.inl h))
  · rw [e] at h; exact Or.inr (Or.inr (Or.inr h))
theorem zx_nr_0 (w : Nat → Nat) (h : ∀ j, j < 4 → ¬ w j = 1) : zx_nr w = 0 := by
  have b0 := h 0 (by decide)
  have b1 := h 1 (by decide)
  have b2 := h 2 (by decide)
  have b3 := h 3 (by decide)
  exact zx_n4_0 (by omega)
/-- i & 3, v & 7 -/
def zx_i3 (x : Int32) : Nat := x.toBitVec.toNat % 2 ^ 2
theorem zx_i3_lt (x : Int32) : zx_i3 x < 4 := Nat.mod_lt _ (by decide)
theorem zx_i3_eq (x : Int32) : x &&& (nI 3) = nI (zx_i3 x) := pk_and x 2 (by decide)
def zx_i7 (x : Int32) : Nat := x.toBitVec.toNat % 2 ^ 3
theorem zx_i7_lt (x : Int32) : zx_i7 x < 8 := Nat.mod_lt _ (by decide)
theorem zx_i7_eq (x : Int32) : x &&& (nI 7) = nI (zx_i7 x) := pk_and x 3 (by decide)
/-- n & 2147483647 -/
def zx_ab (x : Int32) : Nat := x.toBitVec.toNat % 2 ^ 31
theorem zx_ab_lt (x : Int32) : zx_ab x < 2 ^ 31 := Nat.mod_lt _ (by decide)
theorem zx_ab_eq (x : Int32) : x &&& 2147483647 = nI (zx_ab x) := pk_and x 31 (by decide)
/-- how wide the widest may be -/
def zx_mo (w : Nat → Nat) (x : Int32) : Nat := zx_mx w + zx_ab x % (9 - zx_mx w)
theorem zx_mo_le (w : Nat → Nat) (h : ∀ j, j < 4 → 1 ≤ w j ∧ w j ≤ 8) (x : Int32) : zx_mx w ≤ zx_mo w x ∧ zx_mo w x ≤ 8 := by
  have h1 := zx_mx_le w h
  have h2 : zx_ab x % (9 - zx_mx w) < 9 - zx_mx w := Nat.mod_lt _ (by omega)
  unfold zx_mo
  omega
/-- value, withNarrow -/
def zx_va (w : Nat → Nat) (x : Int32) : Int32 := if zx_sm w < 2 * zx_mo w x + 4 then zx_rs w (zx_mo w x) 0 else (-1)
def zx_wn (w : Nat → Nat) (x : Int32) : Int32 := if zx_nr w ≠ 0 ∧ zx_sm w < zx_mo w x + 7 ∧ zx_sm w < 2 * zx_mo w x + 4 then zx_rs w (zx_mo w x) 1 else (-1)
set_option maxHeartbeats 4000000 in
/-- the widest -/
theorem met_dwidest (l : Launch) (D : va_G) (h0 h1 : Nat) (d1 : ClassId) (f : Nat → Int32) (w : Nat → Nat) (hf : zx_ok f w) : Met l yX1_widest wsX1_widest ({ frames := 0, cells := 0, slots := 0, locals := 0 }) (va_Pc [.ref h0] (zx_Rd D [(h0, .inr (0, [.ref h1])), (h1, .inl (d1, 4, .inl f))] [(d1, .int)])) (QcRead (nI (zx_mx w))) 0 0 (fun _ => False) := by
  refine Met.ofW (cc := cX1_widest) (maxL := 6) (ret := (some .int)) (by decide) rfl ?_
  intro p e s m args below meth c s₁ B hml hv
  obtain ⟨ha, hP, hK⟩ := hv
  have hx := B.exec
  have hb := B.bytes
  have hr := B.returns
  have hts := atoms_spec (ws := wsX1_widest) B.pre
  have hts : ∀ w ∈ lw_all, w.before _ s = true := fun w h => hts w (List.mem_cons_of_mem _ h)
  have hown : s.vm.findClass RX1 = some m.cls := findClass_of_methodNamed B.named
  have hlocks := B.notSynchronized
  subst ha
  have hl := lv_entry [.ref h0] (n := 6) (Nat.le_of_ble_eq_true rfl)
  rw [lg_entry_eq]
  generalize (lg_sl [.ref h0] ++ List.replicate (6 - (lg_sl [.ref h0]).length) Slot.unset).toArray = ls at hl ⊢
  have hl : lv_has ls 6 [(0, .ref h0)] := hl
  have b0 := hf.2 0 (by decide)
  have b1 := hf.2 1 (by decide)
  have b2 := hf.2 2 (by decide)
  have b3 := hf.2 3 (by decide)
  have K : ∀ (k i : Nat), i + k = 4 → ∀ (ls : Array Slot), lv_has ls 6 [(0, .ref h0), (1, .int (nI (zx_pm w i))), (2, .ref h1), (3, .int (nI 4)), (4, .int (nI i))] → W p l e (headSpec wsX1_widest ({ frames := 0, cells := 0, slots := 0, locals := 0 })).room s m ([.ref h0] : List Value).toArray below meth c s.heap [] 0 0 (MQ below (QcRead (nI (zx_mx w))) ([.ref h0] : List Value).toArray s 0 0 (fun _ => False)) (F0 m 13 ls []) := by
    intro k
    induction k with
    | zero =>
      intro i hi ls hl
      refine lv_iload hx hb dX1_widest_13 (lv_at hl 4 rfl) ?_
      refine lv_iload_n hx hb dX1_widest_15 rfl (lv_at hl 3 rfl) ?_
      refine lv_icmp_ge (tgt := 44) hx hb dX1_widest_16 (by decide) (fun c_16 => ?_) (fun c_16 => absurd ((nI_leI (a := 4) (b := i) (by omega) (by omega)).mpr (by omega)) c_16)
      refine lv_iload_n hx hb dX1_widest_44 rfl (lv_at hl 1 rfl) ?_
      exact W.iret (v := nI (zx_pm w i)) hx hb hr (fun u9 hu9 hw9 => ⟨congrArg (fun z => Outcome.returned (some (Value.int z))) (by rw [show i = 4 from hi]; rfl), hu9⟩) (fun q h9 => by cases h9) dX1_widest_45
    | succ k ih =>
      intro i hi ls hl
      have hpm := zx_pm_le w hf.2 i (by omega)
      have hwi := hf.2 i (by omega)
      refine lv_iload hx hb dX1_widest_13 (lv_at hl 4 rfl) ?_
      refine lv_iload_n hx hb dX1_widest_15 rfl (lv_at hl 3 rfl) ?_
      refine lv_icmp_ge (tgt := 44) hx hb dX1_widest_16 (by decide) (fun c_16 => absurd ((nI_leI (a := 4) (b := i) (by omega) (by omega)).mp c_16) (by omega)) (fun c_16 => ?_)
      refine lv_aload_n hx hb dX1_widest_19 rfl (lv_at hl 2 rfl) ?_
      refine lv_iload hx hb dX1_widest_20 (lv_at hl 4 rfl) ?_
      refine va_iald hx hb hK hP 1 0 rfl rfl (vp_in_nI (by omega) (by decide)) dX1_widest_22 ?_
      refine zx_tp (y := nI (w i)) (zx_ld hf.1 (by omega) (by decide)) ?_
      refine lv_istore (lv' := [(5, .int (nI (w i))), (0, .ref h0), (1, .int (nI (zx_pm w i))), (2, .ref h1), (3, .int (nI 4)), (4, .int (nI i))]) hx hb dX1_widest_23 hl (by decide) rfl (fun ls hl => ?_)
      refine lv_iload hx hb dX1_widest_25 (lv_at hl 0 rfl) ?_
      refine lv_iload_n hx hb dX1_widest_27 rfl (lv_at hl 2 rfl) ?_
      refine lv_icmp_le (tgt := 36) hx hb dX1_widest_28 (by decide) (fun c_28 => ?_) (fun c_28 => ?_)
      ·
        have c_28 : w i ≤ zx_pm w i := (nI_leI (a := w i) (b := zx_pm w i) (by omega) (by omega)).mp c_28
        refine lv_iload_n hx hb dX1_widest_36 rfl (lv_at hl 2 rfl) ?_
        refine lv_istore_n (lv' := [(1, .int (nI (zx_pm w i))), (5, .int (nI (w i))), (0, .ref h0), (2, .ref h1), (3, .int (nI 4)), (4, .int (nI i))]) hx hb dX1_widest_37 rfl hl (by decide) rfl (fun ls hl => ?_)
        refine lv_iinc (v := nI (i + 1)) (lv' := [(4, .int (nI (i + 1))), (1, .int (nI (zx_pm w i))), (5, .int (nI (w i))), (0, .ref h0), (2, .ref h1), (3, .int (nI 4))]) hx hb dX1_widest_38 hl (k := 5) rfl (zx_inc rfl) (by decide) rfl (fun ls hl => ?_)
        refine lv_goto (tgt := 13) hx hb dX1_widest_41 (by decide) ?_
        exact ih (i + 1) (by omega) ls (by rw [zx_pm_1 w i c_28]; exact lv_sub hl [3, 1, 4, 5, 0] rfl)
      ·
        have c_28 : ¬ (w i ≤ zx_pm w i) := fun h9 => c_28 ((nI_leI (a := w i) (b := zx_pm w i) (by omega) (by omega)).mpr h9)
        refine lv_iload hx hb dX1_widest_31 (lv_at hl 0 rfl) ?_
        refine lv_goto (tgt := 37) hx hb dX1_widest_33 (by decide) ?_
        refine lv_istore_n (lv' := [(1, .int (nI (w i))), (5, .int (nI (w i))), (0, .ref h0), (2, .ref h1), (3, .int (nI 4)), (4, .int (nI i))]) hx hb dX1_widest_37 rfl hl (by decide) rfl (fun ls hl => ?_)
        refine lv_iinc (v := nI (i + 1)) (lv' := [(4, .int (nI (i + 1))), (1, .int (nI (w i))), (5, .int (nI (w i))), (0, .ref h0), (2, .ref h1), (3, .int (nI 4))]) hx hb dX1_widest_38 hl (k := 5) rfl (zx_inc rfl) (by decide) rfl (fun ls hl => ?_)
        refine lv_goto (tgt := 13) hx hb dX1_widest_41 (by decide) ?_
        exact ih (i + 1) (by omega) ls (by rw [zx_pm_0 w i c_28]; exact lv_sub hl [3, 1, 4, 5, 0] rfl)
  refine lv_iconst (v := nI 0) hx hb dX1_widest_0 (by decide) ?_
  refine lv_istore_n (lv' := [(1, .int (nI 0)), (0, .ref h0)]) hx hb dX1_widest_1 rfl hl (by decide) rfl (fun ls hl => ?_)
  refine lv_aload_n hx hb dX1_widest_2 rfl (lv_at hl 1 rfl) ?_
  refine va_get (D := D) (ci := 0) (v := .ref h1) (C := RX1) (T := TX1) (N := 1) hx hb hts in_X1 hown hK hP 0 rfl rfl 0 (by decide) (hts _ q14) (fun _ h9 => h9) rfl dX1_widest_3 ?_
  refine lv_astore_n (lv' := [(2, .ref h1), (1, .int (nI 0)), (0, .ref h0)]) hx hb dX1_widest_6 rfl hl (by decide) rfl (fun ls hl => ?_)
  refine lv_aload_n hx hb dX1_widest_7 rfl (lv_at hl 0 rfl) ?_
  refine va_alen (v := nI 4) hx hb hK hP 1 0 rfl rfl rfl dX1_widest_8 ?_
  refine lv_istore_n (lv' := [(3, .int (nI 4)), (2, .ref h1), (1, .int (nI 0)), (0, .ref h0)]) hx hb dX1_widest_9 rfl hl (by decide) rfl (fun ls hl => ?_)
  refine lv_iconst (v := nI 0) hx hb dX1_widest_10 (by decide) ?_
  refine lv_istore (lv' := [(4, .int (nI 0)), (3, .int (nI 4)), (2, .ref h1), (1, .int (nI 0)), (0, .ref h0)]) hx hb dX1_widest_11 hl (by decide) rfl (fun ls hl => ?_)
  exact K 4 0 rfl ls (lv_sub hl [4, 3, 2, 1, 0] rfl)
set_option maxHeartbeats 4000000 in
/-- the widest -/
theorem met_widest (l : Launch) (D : va_G) (h0 : Nat) (d0 : ClassId) (f : Nat → Int32) (w : Nat → Nat) (hf : zx_ok f w) : Met l yX0_widest wsX0_widest ({ frames := 0, cells := 0, slots := 0, locals := 0 }) (va_Pc [.ref h0] (zx_Rd D [(h0, .inl (d0, 4, .inl f))] [(d0, .int)])) (QcRead (nI (zx_mx w))) 0 0 (fun _ => False) := by
  refine Met.ofW (cc := cX0_widest) (maxL := 6) (ret := (some .int)) (by decide) rfl ?_
  intro p e s m args below meth c s₁ B hml hv
  obtain ⟨ha, hP, hK⟩ := hv
  have hx := B.exec
  have hb := B.bytes
  have hr := B.returns
  have hts := atoms_spec (ws := wsX0_widest) B.pre
  have hts : ∀ w ∈ lw_all, w.before _ s = true := fun w h => hts w (List.mem_cons_of_mem _ h)
  have hown : s.vm.findClass RX0 = some m.cls := findClass_of_methodNamed B.named
  have hlocks := B.notSynchronized
  subst ha
  have hl := lv_entry [.ref h0] (n := 6) (Nat.le_of_ble_eq_true rfl)
  rw [lg_entry_eq]
  generalize (lg_sl [.ref h0] ++ List.replicate (6 - (lg_sl [.ref h0]).length) Slot.unset).toArray = ls at hl ⊢
  have hl : lv_has ls 6 [(0, .ref h0)] := hl
  have b0 := hf.2 0 (by decide)
  have b1 := hf.2 1 (by decide)
  have b2 := hf.2 2 (by decide)
  have b3 := hf.2 3 (by decide)
  have K : ∀ (k i : Nat), i + k = 4 → ∀ (ls : Array Slot), lv_has ls 6 [(0, .ref h0), (1, .int (nI (zx_pm w i))), (2, .ref h0), (3, .int (nI 4)), (4, .int (nI i))] → W p l e (headSpec wsX0_widest ({ frames := 0, cells := 0, slots := 0, locals := 0 })).room s m ([.ref h0] : List Value).toArray below meth c s.heap [] 0 0 (MQ below (QcRead (nI (zx_mx w))) ([.ref h0] : List Value).toArray s 0 0 (fun _ => False)) (F0 m 10 ls []) := by
    intro k
    induction k with
    | zero =>
      intro i hi ls hl
      refine lv_iload hx hb dX0_widest_10 (lv_at hl 4 rfl) ?_
      refine lv_iload_n hx hb dX0_widest_12 rfl (lv_at hl 3 rfl) ?_
      refine lv_icmp_ge (tgt := 41) hx hb dX0_widest_13 (by decide) (fun c_13 => ?_) (fun c_13 => absurd ((nI_leI (a := 4) (b := i) (by omega) (by omega)).mpr (by omega)) c_13)
      refine lv_iload_n hx hb dX0_widest_41 rfl (lv_at hl 1 rfl) ?_
      exact W.iret (v := nI (zx_pm w i)) hx hb hr (fun u9 hu9 hw9 => ⟨congrArg (fun z => Outcome.returned (some (Value.int z))) (by rw [show i = 4 from hi]; rfl), hu9⟩) (fun q h9 => by cases h9) dX0_widest_42
    | succ k ih =>
      intro i hi ls hl
      have hpm := zx_pm_le w hf.2 i (by omega)
      have hwi := hf.2 i (by omega)
      refine lv_iload hx hb dX0_widest_10 (lv_at hl 4 rfl) ?_
      refine lv_iload_n hx hb dX0_widest_12 rfl (lv_at hl 3 rfl) ?_
      refine lv_icmp_ge (tgt := 41) hx hb dX0_widest_13 (by decide) (fun c_13 => absurd ((nI_leI (a := 4) (b := i) (by omega) (by omega)).mp c_13) (by omega)) (fun c_13 => ?_)
      refine lv_aload_n hx hb dX0_widest_16 rfl (lv_at hl 2 rfl) ?_
      refine lv_iload hx hb dX0_widest_17 (lv_at hl 4 rfl) ?_
      refine va_iald hx hb hK hP 0 0 rfl rfl (vp_in_nI (by omega) (by decide)) dX0_widest_19 ?_
      refine zx_tp (y := nI (w i)) (zx_ld hf.1 (by omega) (by decide)) ?_
      refine lv_istore (lv' := [(5, .int (nI (w i))), (0, .ref h0), (1, .int (nI (zx_pm w i))), (2, .ref h0), (3, .int (nI 4)), (4, .int (nI i))]) hx hb dX0_widest_20 hl (by decide) rfl (fun ls hl => ?_)
      refine lv_iload hx hb dX0_widest_22 (lv_at hl 0 rfl) ?_
      refine lv_iload_n hx hb dX0_widest_24 rfl (lv_at hl 2 rfl) ?_
      refine lv_icmp_le (tgt := 33) hx hb dX0_widest_25 (by decide) (fun c_25 => ?_) (fun c_25 => ?_)
      ·
        have c_25 : w i ≤ zx_pm w i := (nI_leI (a := w i) (b := zx_pm w i) (by omega) (by omega)).mp c_25
        refine lv_iload_n hx hb dX0_widest_33 rfl (lv_at hl 2 rfl) ?_
        refine lv_istore_n (lv' := [(1, .int (nI (zx_pm w i))), (5, .int (nI (w i))), (0, .ref h0), (2, .ref h0), (3, .int (nI 4)), (4, .int (nI i))]) hx hb dX0_widest_34 rfl hl (by decide) rfl (fun ls hl => ?_)
        refine lv_iinc (v := nI (i + 1)) (lv' := [(4, .int (nI (i + 1))), (1, .int (nI (zx_pm w i))), (5, .int (nI (w i))), (0, .ref h0), (2, .ref h0), (3, .int (nI 4))]) hx hb dX0_widest_35 hl (k := 5) rfl (zx_inc rfl) (by decide) rfl (fun ls hl => ?_)
        refine lv_goto (tgt := 10) hx hb dX0_widest_38 (by decide) ?_
        exact ih (i + 1) (by omega) ls (by rw [zx_pm_1 w i c_25]; exact lv_sub hl [3, 1, 4, 5, 0] rfl)
      ·
        have c_25 : ¬ (w i ≤ zx_pm w i) := fun h9 => c_25 ((nI_leI (a := w i) (b := zx_pm w i) (by omega) (by omega)).mpr h9)
        refine lv_iload hx hb dX0_widest_28 (lv_at hl 0 rfl) ?_
        refine lv_goto (tgt := 34) hx hb dX0_widest_30 (by decide) ?_
        refine lv_istore_n (lv' := [(1, .int (nI (w i))), (5, .int (nI (w i))), (0, .ref h0), (2, .ref h0), (3, .int (nI 4)), (4, .int (nI i))]) hx hb dX0_widest_34 rfl hl (by decide) rfl (fun ls hl => ?_)
        refine lv_iinc (v := nI (i + 1)) (lv' := [(4, .int (nI (i + 1))), (1, .int (nI (w i))), (5, .int (nI (w i))), (0, .ref h0), (2, .ref h0), (3, .int (nI 4))]) hx hb dX0_widest_35 hl (k := 5) rfl (zx_inc rfl) (by decide) rfl (fun ls hl => ?_)
        refine lv_goto (tgt := 10) hx hb dX0_widest_38 (by decide) ?_
        exact ih (i + 1) (by omega) ls (by rw [zx_pm_0 w i c_25]; exact lv_sub hl [3, 1, 4, 5, 0] rfl)
  refine lv_iconst (v := nI 0) hx hb dX0_widest_0 (by decide) ?_
  refine lv_istore_n (lv' := [(1, .int (nI 0)), (0, .ref h0)]) hx hb dX0_widest_1 rfl hl (by decide) rfl (fun ls hl => ?_)
  refine lv_aload_n hx hb dX0_widest_2 rfl (lv_at hl 1 rfl) ?_
  refine lv_astore_n (lv' := [(2, .ref h0), (1, .int (nI 0)), (0, .ref h0)]) hx hb dX0_widest_3 rfl hl (by decide) rfl (fun ls hl => ?_)
  refine lv_aload_n hx hb dX0_widest_4 rfl (lv_at hl 0 rfl) ?_
  refine va_alen (v := nI 4) hx hb hK hP 0 0 rfl rfl rfl dX0_widest_5 ?_
  refine lv_istore_n (lv' := [(3, .int (nI 4)), (2, .ref h0), (1, .int (nI 0)), (0, .ref h0)]) hx hb dX0_widest_6 rfl hl (by decide) rfl (fun ls hl => ?_)
  refine lv_iconst (v := nI 0) hx hb dX0_widest_7 (by decide) ?_
  refine lv_istore (lv' := [(4, .int (nI 0)), (3, .int (nI 4)), (2, .ref h0), (1, .int (nI 0)), (0, .ref h0)]) hx hb dX0_widest_8 hl (by decide) rfl (fun ls hl => ?_)
  exact K 4 0 rfl ls (lv_sub hl [4, 3, 2, 1, 0] rfl)
set_option maxHeartbeats 4000000 in
/-- the sum -/
theorem met_dsum (l : Launch) (D : va_G) (h0 h1 : Nat) (d1 : ClassId) (f : Nat → Int32) (w : Nat → Nat) (hf : zx_ok f w) : Met l yX1_sum wsX1_sum ({ frames := 0, cells := 0, slots := 0, locals := 0 }) (va_Pc [.ref h0] (zx_Rd D [(h0, .inr (0, [.ref h1])), (h1, .inl (d1, 4, .inl f))] [(d1, .int)])) (QcRead (nI (zx_sm w))) 0 0 (fun _ => False) := by
  refine Met.ofW (cc := cX1_sum) (maxL := 1) (ret := (some .int)) (by decide) rfl ?_
  intro p e s m args below meth c s₁ B hml hv
  obtain ⟨ha, hP, hK⟩ := hv
  have hx := B.exec
  have hb := B.bytes
  have hr := B.returns
  have hts := atoms_spec (ws := wsX1_sum) B.pre
  have hts : ∀ w ∈ lw_all, w.before _ s = true := fun w h => hts w (List.mem_cons_of_mem _ h)
  have hown : s.vm.findClass RX1 = some m.cls := findClass_of_methodNamed B.named
  have hlocks := B.notSynchronized
  subst ha
  have hl := lv_entry [.ref h0] (n := 1) (Nat.le_of_ble_eq_true rfl)
  rw [lg_entry_eq]
  generalize (lg_sl [.ref h0] ++ List.replicate (1 - (lg_sl [.ref h0]).length) Slot.unset).toArray = ls at hl ⊢
  have hl : lv_has ls 1 [(0, .ref h0)] := hl
  refine lv_aload_n hx hb dX1_sum_0 rfl (lv_at hl 0 rfl) ?_
  refine va_get (D := D) (ci := 0) (v := .ref h1) (C := RX1) (T := TX1) (N := 1) hx hb hts in_X1 hown hK hP 0 rfl rfl 0 (by decide) (hts _ q14) (fun _ h9 => h9) rfl dX1_sum_1 ?_
  refine lv_iconst (v := nI 0) hx hb dX1_sum_4 (by decide) ?_
  refine va_iald hx hb hK hP 1 0 rfl rfl (vp_in_nI (by omega) (by decide)) dX1_sum_5 ?_
  refine zx_tp (y := nI (w 0)) (zx_ld hf.1 (by omega) (by decide)) ?_
  refine lv_aload_n hx hb dX1_sum_6 rfl (lv_at hl 0 rfl) ?_
  refine va_get (D := D) (ci := 0) (v := .ref h1) (C := RX1) (T := TX1) (N := 1) hx hb hts in_X1 hown hK hP 0 rfl rfl 0 (by decide) (hts _ q14) (fun _ h9 => h9) rfl dX1_sum_7 ?_
  refine lv_iconst (v := nI 1) hx hb dX1_sum_10 (by decide) ?_
  refine va_iald hx hb hK hP 1 0 rfl rfl (vp_in_nI (by omega) (by decide)) dX1_sum_11 ?_
  refine zx_tp (y := nI (w 1)) (zx_ld hf.1 (by omega) (by decide)) ?_
  refine lv_iadd hx hb dX1_sum_12 ?_
  refine zx_tp (y := nI (w 0 + (w 1))) (zx_add rfl) ?_
  refine lv_aload_n hx hb dX1_sum_13 rfl (lv_at hl 0 rfl) ?_
  refine va_get (D := D) (ci := 0) (v := .ref h1) (C := RX1) (T := TX1) (N := 1) hx hb hts in_X1 hown hK hP 0 rfl rfl 0 (by decide) (hts _ q14) (fun _ h9 => h9) rfl dX1_sum_14 ?_
  refine lv_iconst (v := nI 2) hx hb dX1_sum_17 (by decide) ?_
  refine va_iald hx hb hK hP 1 0 rfl rfl (vp_in_nI (by omega) (by decide)) dX1_sum_18 ?_
  refine zx_tp (y := nI (w 2)) (zx_ld hf.1 (by omega) (by decide)) ?_
  refine lv_iadd hx hb dX1_sum_19 ?_
  refine zx_tp (y := nI (w 0 + (w 1) + (w 2))) (zx_add rfl) ?_
  refine lv_aload_n hx hb dX1_sum_20 rfl (lv_at hl 0 rfl) ?_
  refine va_get (D := D) (ci := 0) (v := .ref h1) (C := RX1) (T := TX1) (N := 1) hx hb hts in_X1 hown hK hP 0 rfl rfl 0 (by decide) (hts _ q14) (fun _ h9 => h9) rfl dX1_sum_21 ?_
  refine lv_iconst (v := nI 3) hx hb dX1_sum_24 (by decide) ?_
  refine va_iald hx hb hK hP 1 0 rfl rfl (vp_in_nI (by omega) (by decide)) dX1_sum_25 ?_
  refine zx_tp (y := nI (w 3)) (zx_ld hf.1 (by omega) (by decide)) ?_
  refine lv_iadd hx hb dX1_sum_26 ?_
  refine zx_tp (y := nI (w 0 + (w 1) + (w 2) + (w 3))) (zx_add rfl) ?_
  exact W.iret (v := nI (w 0 + (w 1) + (w 2) + (w 3))) hx hb hr (fun u9 hu9 hw9 => ⟨congrArg (fun z => Outcome.returned (some (Value.int z))) (rfl), hu9⟩) (fun q h9 => by cases h9) dX1_sum_27
set_option maxHeartbeats 4000000 in
/-- the sum -/
theorem met_sum (l : Launch) (D : va_G) (h0 : Nat) (d0 : ClassId) (f : Nat → Int32) (w : Nat → Nat) (hf : zx_ok f w) : Met l yX0_sum wsX0_sum ({ frames := 0, cells := 0, slots := 0, locals := 0 }) (va_Pc [.ref h0] (zx_Rd D [(h0, .inl (d0, 4, .inl f))] [(d0, .int)])) (QcRead (nI (zx_sm w))) 0 0 (fun _ => False) := by
  refine Met.ofW (cc := cX0_sum) (maxL := 1) (ret := (some .int)) (by decide) rfl ?_
  intro p e s m args below meth c s₁ B hml hv
  obtain ⟨ha, hP, hK⟩ := hv
  have hx := B.exec
  have hb := B.bytes
  have hr := B.returns
  have hts := atoms_spec (ws := wsX0_sum) B.pre
  have hts : ∀ w ∈ lw_all, w.before _ s = true := fun w h => hts w (List.mem_cons_of_mem _ h)
  have hown : s.vm.findClass RX0 = some m.cls := findClass_of_methodNamed B.named
  have hlocks := B.notSynchronized
  subst ha
  have hl := lv_entry [.ref h0] (n := 1) (Nat.le_of_ble_eq_true rfl)
  rw [lg_entry_eq]
  generalize (lg_sl [.ref h0] ++ List.replicate (1 - (lg_sl [.ref h0]).length) Slot.unset).toArray = ls at hl ⊢
  have hl : lv_has ls 1 [(0, .ref h0)] := hl
  refine lv_aload_n hx hb dX0_sum_0 rfl (lv_at hl 0 rfl) ?_
  refine lv_iconst (v := nI 0) hx hb dX0_sum_1 (by decide) ?_
  refine va_iald hx hb hK hP 0 0 rfl rfl (vp_in_nI (by omega) (by decide)) dX0_sum_2 ?_
  refine zx_tp (y := nI (w 0)) (zx_ld hf.1 (by omega) (by decide)) ?_
  refine lv_aload_n hx hb dX0_sum_3 rfl (lv_at hl 0 rfl) ?_
  refine lv_iconst (v := nI 1) hx hb dX0_sum_4 (by decide) ?_
  refine va_iald hx hb hK hP 0 0 rfl rfl (vp_in_nI (by omega) (by decide)) dX0_sum_5 ?_
  refine zx_tp (y := nI (w 1)) (zx_ld hf.1 (by omega) (by decide)) ?_
  refine lv_iadd hx hb dX0_sum_6 ?_
  refine zx_tp (y := nI (w 0 + (w 1))) (zx_add rfl) ?_
  refine lv_aload_n hx hb dX0_sum_7 rfl (lv_at hl 0 rfl) ?_
  refine lv_iconst (v := nI 2) hx hb dX0_sum_8 (by decide) ?_
  refine va_iald hx hb hK hP 0 0 rfl rfl (vp_in_nI (by omega) (by decide)) dX0_sum_9 ?_
  refine zx_tp (y := nI (w 2)) (zx_ld hf.1 (by omega) (by decide)) ?_
  refine lv_iadd hx hb dX0_sum_10 ?_
  refine zx_tp (y := nI (w 0 + (w 1) + (w 2))) (zx_add rfl) ?_
  refine lv_aload_n hx hb dX0_sum_11 rfl (lv_at hl 0 rfl) ?_
  refine lv_iconst (v := nI 3) hx hb dX0_sum_12 (by decide) ?_
  refine va_iald hx hb hK hP 0 0 rfl rfl (vp_in_nI (by omega) (by decide)) dX0_sum_13 ?_
  refine zx_tp (y := nI (w 3)) (zx_ld hf.1 (by omega) (by decide)) ?_
  refine lv_iadd hx hb dX0_sum_14 ?_
  refine zx_tp (y := nI (w 0 + (w 1) + (w 2) + (w 3))) (zx_add rfl) ?_
  exact W.iret (v := nI (w 0 + (w 1) + (w 2) + (w 3))) hx hb hr (fun u9 hu9 hw9 => ⟨congrArg (fun z => Outcome.returned (some (Value.int z))) (rfl), hu9⟩) (fun q h9 => by cases h9) dX0_sum_15
set_option maxHeartbeats 4000000 in
/-- is one of them narrow -/
theorem met_dnarrow (l : Launch) (D : va_G) (h0 h1 : Nat) (d1 : ClassId) (f : Nat → Int32) (w : Nat → Nat) (hf : zx_ok f w) : Met l yX1_narrow wsX1_narrow ({ frames := 0, cells := 0, slots := 0, locals := 0 }) (va_Pc [.ref h0] (zx_Rd D [(h0, .inr (0, [.ref h1])), (h1, .inl (d1, 4, .inl f))] [(d1, .int)])) (QcRead (nI (zx_nr w))) 0 0 (fun _ => False) := by
  refine Met.ofW (cc := cX1_narrow) (maxL := 5) (ret := (some .boolean)) (by decide) rfl ?_
  intro p e s m args below meth c s₁ B hml hv
  obtain ⟨ha, hP, hK⟩ := hv
  have hx := B.exec
  have hb := B.bytes
  have hr := B.returns
  have hts := atoms_spec (ws := wsX1_narrow) B.pre
  have hts : ∀ w ∈ lw_all, w.before _ s = true := fun w h => hts w (List.mem_cons_of_mem _ h)
  have hown : s.vm.findClass RX1 = some m.cls := findClass_of_methodNamed B.named
  have hlocks := B.notSynchronized
  subst ha
  have hl := lv_entry [.ref h0] (n := 5) (Nat.le_of_ble_eq_true rfl)
  rw [lg_entry_eq]
  generalize (lg_sl [.ref h0] ++ List.replicate (5 - (lg_sl [.ref h0]).length) Slot.unset).toArray = ls at hl ⊢
  have hl : lv_has ls 5 [(0, .ref h0)] := hl
  have b0 := hf.2 0 (by decide)
  have b1 := hf.2 1 (by decide)
  have b2 := hf.2 2 (by decide)
  have b3 := hf.2 3 (by decide)
  have K : ∀ (k i : Nat), i + k = 4 → (∀ j, j < i → ¬ w j = 1) → ∀ (ls : Array Slot), lv_has ls 5 [(0, .ref h0), (1, .ref h1), (2, .int (nI 4)), (3, .int (nI i))] → W p l e (headSpec wsX1_narrow ({ frames := 0, cells := 0, slots := 0, locals := 0 })).room s m ([.ref h0] : List Value).toArray below meth c s.heap [] 0 0 (MQ below (QcRead (nI (zx_nr w))) ([.ref h0] : List Value).toArray s 0 0 (fun _ => False)) (F0 m 10 ls []) := by
    intro k
    induction k with
    | zero =>
      intro i hi hn ls hl
      refine lv_iload_n hx hb dX1_narrow_10 rfl (lv_at hl 3 rfl) ?_
      refine lv_iload_n hx hb dX1_narrow_11 rfl (lv_at hl 2 rfl) ?_
      refine lv_icmp_ge (tgt := 34) hx hb dX1_narrow_12 (by decide) (fun c_12 => ?_) (fun c_12 => absurd ((nI_leI (a := 4) (b := i) (by omega) (by omega)).mpr (by omega)) c_12)
      refine lv_iconst (v := nI 0) hx hb dX1_narrow_34 (by decide) ?_
      exact W.zret (v := nI 0) hx hb hr (rfl) (fun u9 hu9 hw9 => ⟨congrArg (fun z => Outcome.returned (some (Value.int z))) (by rw [zx_nr_0 w (fun j hj => hn j (by omega))]), hu9⟩) (fun q h9 => by cases h9) dX1_narrow_35
    | succ k ih =>
      intro i hi hn ls hl
      have hwi := hf.2 i (by omega)
      refine lv_iload_n hx hb dX1_narrow_10 rfl (lv_at hl 3 rfl) ?_
      refine lv_iload_n hx hb dX1_narrow_11 rfl (lv_at hl 2 rfl) ?_
      refine lv_icmp_ge (tgt := 34) hx hb dX1_narrow_12 (by decide) (fun c_12 => absurd ((nI_leI (a := 4) (b := i) (by omega) (by omega)).mp c_12) (by omega)) (fun c_12 => ?_)
      refine lv_aload_n hx hb dX1_narrow_15 rfl (lv_at hl 1 rfl) ?_
      refine lv_iload_n hx hb dX1_narrow_16 rfl (lv_at hl 3 rfl) ?_
      refine va_iald hx hb hK hP 1 0 rfl rfl (vp_in_nI (by omega) (by decide)) dX1_narrow_17 ?_
      refine zx_tp (y := nI (w i)) (zx_ld hf.1 (by omega) (by decide)) ?_
      refine lv_istore (lv' := [(4, .int (nI (w i))), (0, .ref h0), (1, .ref h1), (2, .int (nI 4)), (3, .int (nI i))]) hx hb dX1_narrow_18 hl (by decide) rfl (fun ls hl => ?_)
      refine lv_iload hx hb dX1_narrow_20 (lv_at hl 0 rfl) ?_
      refine lv_iconst (v := nI 1) hx hb dX1_narrow_22 (by decide) ?_
      refine lv_icmp_ne (tgt := 28) hx hb dX1_narrow_23 (by decide) (fun c_23 => ?_) (fun c_23 => ?_)
      ·
        have c_23 : ¬ (w i = 1) := fun h9 => c_23 ((nI_eq (a := w i) (b := 1) (by omega) (by omega)).mpr h9)
        refine lv_iinc (v := nI (i + 1)) (lv' := [(3, .int (nI (i + 1))), (4, .int (nI (w i))), (0, .ref h0), (1, .ref h1), (2, .int (nI 4))]) hx hb dX1_narrow_28 hl (k := 4) rfl (zx_inc rfl) (by decide) rfl (fun ls hl => ?_)
        refine lv_goto (tgt := 10) hx hb dX1_narrow_31 (by decide) ?_
        exact ih (i + 1) (by omega) (fun j hj => by
          rcases Nat.lt_or_ge j i with q | q
          · exact hn j q
          · rw [show j = i by omega]; exact c_23) ls (lv_sub hl [2, 3, 4, 0] rfl)
      ·
        have c_23 : w i = 1 := (nI_eq (a := w i) (b := 1) (by omega) (by omega)).mp c_23
        refine lv_iconst (v := nI 1) hx hb dX1_narrow_26 (by decide) ?_
        exact W.zret (v := nI 1) hx hb hr (rfl) (fun u9 hu9 hw9 => ⟨congrArg (fun z => Outcome.returned (some (Value.int z))) (by rw [zx_nr_1 w i (by omega) c_23]), hu9⟩) (fun q h9 => by cases h9) dX1_narrow_27
  refine lv_aload_n hx hb dX1_narrow_0 rfl (lv_at hl 0 rfl) ?_
  refine va_get (D := D) (ci := 0) (v := .ref h1) (C := RX1) (T := TX1) (N := 1) hx hb hts in_X1 hown hK hP 0 rfl rfl 0 (by decide) (hts _ q14) (fun _ h9 => h9) rfl dX1_narrow_1 ?_
  refine lv_astore_n (lv' := [(1, .ref h1), (0, .ref h0)]) hx hb dX1_narrow_4 rfl hl (by decide) rfl (fun ls hl => ?_)
  refine lv_aload_n hx hb dX1_narrow_5 rfl (lv_at hl 0 rfl) ?_
  refine va_alen (v := nI 4) hx hb hK hP 1 0 rfl rfl rfl dX1_narrow_6 ?_
  refine lv_istore_n (lv' := [(2, .int (nI 4)), (1, .ref h1), (0, .ref h0)]) hx hb dX1_narrow_7 rfl hl (by decide) rfl (fun ls hl => ?_)
  refine lv_iconst (v := nI 0) hx hb dX1_narrow_8 (by decide) ?_
  refine lv_istore_n (lv' := [(3, .int (nI 0)), (2, .int (nI 4)), (1, .ref h1), (0, .ref h0)]) hx hb dX1_narrow_9 rfl hl (by decide) rfl (fun ls hl => ?_)
  exact K 4 0 rfl (fun j hj => absurd hj (Nat.not_lt_zero j)) ls (lv_sub hl [3, 2, 1, 0] rfl)
set_option maxHeartbeats 4000000 in
/-- narrow(a, b, c, d) -/
theorem met_narrow (l : Launch) (a b c4 d4 : Nat) (h1 : a < 1000 ∧ b < 1000 ∧ c4 < 1000 ∧ d4 < 1000) : Met l yX0_narrow wsX0_narrow ({ frames := 0, cells := 0, slots := 0, locals := 0 }) (va_Pc [.int (nI a), .int (nI b), .int (nI c4), .int (nI d4)] (fun _ => True)) (QcRead (nI (zx_n4 a b c4 d4))) 0 0 (fun _ => False) := by
  refine Met.ofW (cc := cX0_narrow) (maxL := 4) (ret := (some .boolean)) (by decide) rfl ?_
  intro p e s m args below meth c s₁ B hml hv
  obtain ⟨ha, -⟩ := hv
  have hx := B.exec
  have hb := B.bytes
  have hr := B.returns
  have hts := atoms_spec (ws := wsX0_narrow) B.pre
  have hts : ∀ w ∈ lw_all, w.before _ s = true := fun w h => hts w (List.mem_cons_of_mem _ h)
  have hown : s.vm.findClass RX0 = some m.cls := findClass_of_methodNamed B.named
  have hlocks := B.notSynchronized
  subst ha
  have hl := lv_entry [.int (nI a), .int (nI b), .int (nI c4), .int (nI d4)] (n := 4) (Nat.le_of_ble_eq_true rfl)
  rw [lg_entry_eq]
  generalize (lg_sl [.int (nI a), .int (nI b), .int (nI c4), .int (nI d4)] ++ List.replicate (4 - (lg_sl [.int (nI a), .int (nI b), .int (nI c4), .int (nI d4)]).length) Slot.unset).toArray = ls at hl ⊢
  have hl : lv_has ls 4 [(0, .int (nI a)), (1, .int (nI b)), (2, .int (nI c4)), (3, .int (nI d4))] := hl
  refine lv_iload_n hx hb dX0_narrow_0 rfl (lv_at hl 0 rfl) ?_
  refine lv_iconst (v := nI 1) hx hb dX0_narrow_1 (by decide) ?_
  refine lv_icmp_eq (tgt := 20) hx hb dX0_narrow_2 (by decide) (fun c_2 => ?_) (fun c_2 => ?_)
  ·
    have c_2 : a = 1 := (nI_eq (a := a) (b := 1) (by omega) (by omega)).mp c_2
    refine lv_iconst (v := nI 1) hx hb dX0_narrow_20 (by decide) ?_
    refine lv_goto (tgt := 25) hx hb dX0_narrow_21 (by decide) ?_
    exact W.zret (v := nI 1) hx hb hr (rfl) (fun u9 hu9 hw9 => ⟨congrArg (fun z => Outcome.returned (some (Value.int z))) (by rw [zx_n4_1 (Or.inl c_2)]), hu9⟩) (fun q h9 => by cases h9) dX0_narrow_25
  ·
    have c_2 : ¬ (a = 1) := fun h9 => c_2 ((nI_eq (a := a) (b := 1) (by omega) (by omega)).mpr h9)
    refine lv_iload_n hx hb dX0_narrow_5 rfl (lv_at hl 1 rfl) ?_
    refine lv_iconst (v := nI 1) hx hb dX0_narrow_6 (by decide) ?_
    refine lv_icmp_eq (tgt := 20) hx hb dX0_narrow_7 (by decide) (fun c_7 => ?_) (fun c_7 => ?_)
    ·
      have c_7 : b = 1 := (nI_eq (a := b) (b := 1) (by omega) (by omega)).mp c_7
      refine lv_iconst (v := nI 1) hx hb dX0_narrow_20 (by decide) ?_
      refine lv_goto (tgt := 25) hx hb dX0_narrow_21 (by decide) ?_
      exact W.zret (v := nI 1) hx hb hr (rfl) (fun u9 hu9 hw9 => ⟨congrArg (fun z => Outcome.returned (some (Value.int z))) (by rw [zx_n4_1 (Or.inr (Or.inl c_7))]), hu9⟩) (fun q h9 => by cases h9) dX0_narrow_25
    ·
      have c_7 : ¬ (b = 1) := fun h9 => c_7 ((nI_eq (a := b) (b := 1) (by omega) (by omega)).mpr h9)
      refine lv_iload_n hx hb dX0_narrow_10 rfl (lv_at hl 2 rfl) ?_
      refine lv_iconst (v := nI 1) hx hb dX0_narrow_11 (by decide) ?_
      refine lv_icmp_eq (tgt := 20) hx hb dX0_narrow_12 (by decide) (fun c_12 => ?_) (fun c_12 => ?_)
      ·
        have c_12 : c4 = 1 := (nI_eq (a := c4) (b := 1) (by omega) (by omega)).mp c_12
        refine lv_iconst (v := nI 1) hx hb dX0_narrow_20 (by decide) ?_
        refine lv_goto (tgt := 25) hx hb dX0_narrow_21 (by decide) ?_
        exact W.zret (v := nI 1) hx hb hr (rfl) (fun u9 hu9 hw9 => ⟨congrArg (fun z => Outcome.returned (some (Value.int z))) (by rw [zx_n4_1 (Or.inr (Or.inr (Or.inl c_12)))]), hu9⟩) (fun q h9 => by cases h9) dX0_narrow_25
      ·
        have c_12 : ¬ (c4 = 1) := fun h9 => c_12 ((nI_eq (a := c4) (b := 1) (by omega) (by omega)).mpr h9)
        refine lv_iload_n hx hb dX0_narrow_15 rfl (lv_at hl 3 rfl) ?_
        refine lv_iconst (v := nI 1) hx hb dX0_narrow_16 (by decide) ?_
        refine lv_icmp_ne (tgt := 24) hx hb dX0_narrow_17 (by decide) (fun c_17 => ?_) (fun c_17 => ?_)
        ·
          have c_17 : ¬ (d4 = 1) := fun h9 => c_17 ((nI_eq (a := d4) (b := 1) (by omega) (by omega)).mpr h9)
          refine lv_iconst (v := nI 0) hx hb dX0_narrow_24 (by decide) ?_
          exact W.zret (v := nI 0) hx hb hr (rfl) (fun u9 hu9 hw9 => ⟨congrArg (fun z => Outcome.returned (some (Value.int z))) (by rw [zx_n4_0 (by omega)]), hu9⟩) (fun q h9 => by cases h9) dX0_narrow_25
        ·
          have c_17 : d4 = 1 := (nI_eq (a := d4) (b := 1) (by omega) (by omega)).mp c_17
          refine lv_iconst (v := nI 1) hx hb dX0_narrow_20 (by decide) ?_
          refine lv_goto (tgt := 25) hx hb dX0_narrow_21 (by decide) ?_
          exact W.zret (v := nI 1) hx hb hr (rfl) (fun u9 hu9 hw9 => ⟨congrArg (fun z => Outcome.returned (some (Value.int z))) (by rw [zx_n4_1 (by omega)]), hu9⟩) (fun q h9 => by cases h9) dX0_narrow_25
set_option maxHeartbeats 4000000 in
/-- width(i) -/
theorem met_dwidth (l : Launch) (D : va_G) (h0 h1 : Nat) (d1 : ClassId) (f : Nat → Int32) (w : Nat → Nat) (hf : zx_ok f w) (x : Int32) : Met l yX1_width_2 wsX1_width_2 ({ frames := 0, cells := 0, slots := 0, locals := 0 }) (va_Pc [.ref h0, .int x] (zx_Rd D [(h0, .inr (0, [.ref h1])), (h1, .inl (d1, 4, .inl f))] [(d1, .int)])) (QcRead (nI (w (zx_i3 x)))) 0 0 (fun _ => False) := by
  refine Met.ofW (cc := cX1_width_2) (maxL := 2) (ret := (some .int)) (by decide) rfl ?_
  intro p e s m args below meth c s₁ B hml hv
  obtain ⟨ha, hP, hK⟩ := hv
  have hx := B.exec
  have hb := B.bytes
  have hr := B.returns
  have hts := atoms_spec (ws := wsX1_width_2) B.pre
  have hts : ∀ w ∈ lw_all, w.before _ s = true := fun w h => hts w (List.mem_cons_of_mem _ h)
  have hown : s.vm.findClass RX1 = some m.cls := findClass_of_methodNamed B.named
  have hlocks := B.notSynchronized
  subst ha
  have hl := lv_entry [.ref h0, .int x] (n := 2) (Nat.le_of_ble_eq_true rfl)
  rw [lg_entry_eq]
  generalize (lg_sl [.ref h0, .int x] ++ List.replicate (2 - (lg_sl [.ref h0, .int x]).length) Slot.unset).toArray = ls at hl ⊢
  have hl : lv_has ls 2 [(0, .ref h0), (1, .int x)] := hl
  have h3 := zx_i3_lt x
  refine lv_aload_n hx hb dX1_width_2_0 rfl (lv_at hl 0 rfl) ?_
  refine va_get (D := D) (ci := 0) (v := .ref h1) (C := RX1) (T := TX1) (N := 1) hx hb hts in_X1 hown hK hP 0 rfl rfl 0 (by decide) (hts _ q14) (fun _ h9 => h9) rfl dX1_width_2_1 ?_
  refine lv_iload_n hx hb dX1_width_2_4 rfl (lv_at hl 1 rfl) ?_
  refine lv_iconst (v := nI 3) hx hb dX1_width_2_5 (by decide) ?_
  refine lv_iand hx hb dX1_width_2_6 ?_
  refine zx_tp (y := nI (zx_i3 x)) (zx_i3_eq x) ?_
  refine va_iald hx hb hK hP 1 0 rfl rfl (vp_in_nI (by omega) (by decide)) dX1_width_2_7 ?_
  refine zx_tp (y := nI (w (zx_i3 x))) (zx_ld hf.1 (by omega) (by decide)) ?_
  exact W.iret (v := nI (w (zx_i3 x))) hx hb hr (fun u9 hu9 hw9 => ⟨congrArg (fun z => Outcome.returned (some (Value.int z))) (rfl), hu9⟩) (fun q h9 => by cases h9) dX1_width_2_8
set_option maxHeartbeats 4000000 in
/-- value(most) -/
theorem met_dvalue (l : Launch) (D : va_G) (h0 h1 : Nat) (d1 : ClassId) (f : Nat → Int32) (w : Nat → Nat) (hf : zx_ok f w) (x : Int32) : Met l yX1_value wsX1_value ({ frames := 2, cells := 0, slots := 0, locals := 57 }) (va_Pc [.ref h0, .int x] (zx_Rd D [(h0, .inr (0, [.ref h1])), (h1, .inl (d1, 4, .inl f))] [(d1, .int)])) (QcRead (zx_va w x)) 0 0 (fun _ => False) := by
  refine Met.ofW (cc := cX1_value) (maxL := 4) (ret := (some .int)) (by decide) rfl ?_
  intro p e s m args below meth c s₁ B hml hv
  obtain ⟨ha, hP, hK⟩ := hv
  have hx := B.exec
  have hb := B.bytes
  have hr := B.returns
  have hts := atoms_spec (ws := wsX1_value) B.pre
  have hts : ∀ w ∈ lw_all, w.before _ s = true := fun w h => hts w (List.mem_cons_of_mem _ h)
  have hown : s.vm.findClass RX1 = some m.cls := findClass_of_methodNamed B.named
  have hlocks := B.notSynchronized
  subst ha
  have hl := lv_entry [.ref h0, .int x] (n := 4) (Nat.le_of_ble_eq_true rfl)
  rw [lg_entry_eq]
  generalize (lg_sl [.ref h0, .int x] ++ List.replicate (4 - (lg_sl [.ref h0, .int x]).length) Slot.unset).toArray = ls at hl ⊢
  have hl : lv_has ls 4 [(0, .ref h0), (1, .int x)] := hl
  have hm1 := zx_mx_le w hf.2
  have hmo := zx_mo_le w hf.2 x
  have hsm := zx_sm_le w hf.2
  refine lv_aload_n hx hb dX1_value_0 rfl (lv_at hl 0 rfl) ?_
  refine zx_callR (W.runV (As := []) (rest := []) ⟨hx, hb, hml, hown, hts⟩ (met_dwidest l D h0 h1 d1 f w hf) (cwV 0 hts (lw_V q49 q51 qs0 q4 q52) rfl rfl rfl (by decide +kernel) ⟨Nat.le_of_ble_eq_true rfl, Nat.le_of_ble_eq_true rfl⟩) (zx_preV hP hK rfl) rfl rfl hl.1 rfl (lv_room (Nat.le_of_ble_eq_true rfl)) dX1_value_1 ⟨Nat.zero_le _, Nat.zero_le _⟩) ?_
  refine lv_istore_n (lv' := [(2, .int (nI (zx_mx w))), (0, .ref h0), (1, .int x)]) hx hb dX1_value_4 rfl hl (by decide) rfl (fun ls hl => ?_)
  refine lv_iload_n hx hb dX1_value_5 rfl (lv_at hl 0 rfl) ?_
  refine lv_iload_n hx hb dX1_value_6 rfl (lv_at hl 2 rfl) ?_
  refine lv_ldc hx hb hown (hts _ q53) dX1_value_7 ?_
  refine lv_iand hx hb dX1_value_9 ?_
  refine zx_tp (y := nI (zx_ab x)) (zx_ab_eq x) ?_
  refine lv_bipush (v := nI 9) hx hb dX1_value_10 (by decide) ?_
  refine lv_iload_n hx hb dX1_value_12 rfl (lv_at hl 0 rfl) ?_
  refine lv_isub hx hb dX1_value_13 ?_
  refine zx_tp (y := nI (9 - (zx_mx w))) (zx_sub (by omega) rfl) ?_
  refine lv_irem hx hb dX1_value_14 (nI_ne0 (by omega) (by omega)) ?_
  refine zx_tp (y := nI (zx_ab x % (9 - zx_mx w))) (pk_rem (zx_ab_lt x) (by omega) (by omega)) ?_
  refine lv_iadd hx hb dX1_value_15 ?_
  refine zx_tp (y := nI (zx_mo w x)) (zx_add rfl) ?_
  refine lv_istore_n (lv' := [(3, .int (nI (zx_mo w x))), (2, .int (nI (zx_mx w))), (0, .ref h0), (1, .int x)]) hx hb dX1_value_16 rfl hl (by decide) rfl (fun ls hl => ?_)
  refine lv_aload_n hx hb dX1_value_17 rfl (lv_at hl 2 rfl) ?_
  refine zx_callR (W.runV (As := []) (rest := []) ⟨hx, hb, hml, hown, hts⟩ (met_dsum l D h0 h1 d1 f w hf) (cwV 0 hts (lw_V q54 q56 qs1 q4 q57) rfl rfl rfl (by decide +kernel) ⟨Nat.le_of_ble_eq_true rfl, Nat.le_of_ble_eq_true rfl⟩) (zx_preV hP hK rfl) rfl rfl hl.1 rfl (lv_room (Nat.le_of_ble_eq_true rfl)) dX1_value_18 ⟨Nat.zero_le _, Nat.zero_le _⟩) ?_
  refine lv_iconst (v := nI 2) hx hb dX1_value_21 (by decide) ?_
  refine lv_iload_n hx hb dX1_value_22 rfl (lv_at hl 0 rfl) ?_
  refine lv_imul hx hb dX1_value_23 ?_
  refine zx_tp (y := nI (2 * (zx_mo w x))) (zx_mul rfl) ?_
  refine lv_iconst (v := nI 4) hx hb dX1_value_24 (by decide) ?_
  refine lv_iadd hx hb dX1_value_25 ?_
  refine zx_tp (y := nI (2 * (zx_mo w x) + 4)) (zx_add rfl) ?_
  refine lv_icmp_ge (tgt := 41) hx hb dX1_value_26 (by decide) (fun c_26 => ?_) (fun c_26 => ?_)
  ·
    have c_26 : 2 * (zx_mo w x) + 4 ≤ zx_sm w := (nI_leI (a := 2 * (zx_mo w x) + 4) (b := zx_sm w) (by omega) (by omega)).mp c_26
    refine lv_iconst (v := (-1)) hx hb dX1_value_41 (by decide) ?_
    exact W.iret (v := (-1)) hx hb hr (fun u9 hu9 hw9 => ⟨congrArg (fun z => Outcome.returned (some (Value.int z))) (by unfold zx_va; rw [if_neg (by omega)]), hu9⟩) (fun q h9 => by cases h9) dX1_value_42
  ·
    have c_26 : ¬ (2 * (zx_mo w x) + 4 ≤ zx_sm w) := fun h9 => c_26 ((nI_leI (a := 2 * (zx_mo w x) + 4) (b := zx_sm w) (by omega) (by omega)).mpr h9)
    refine lv_aload_n hx hb dX1_value_29 rfl (lv_at hl 2 rfl) ?_
    refine va_get (D := D) (ci := 0) (v := .ref h1) (C := RX1) (T := TX1) (N := 1) hx hb hts in_X1 hown hK hP 0 rfl rfl 0 (by decide) (hts _ q14) (fun _ h9 => h9) rfl dX1_value_30 ?_
    refine lv_iload_n hx hb dX1_value_33 rfl (lv_at hl 0 rfl) ?_
    refine lv_iconst (v := nI 0) hx hb dX1_value_34 (by decide) ?_
    refine zx_callR (W.runS (As := [.ref h1, .int (nI (zx_mo w x)), .int (nI 0)]) (rest := []) ⟨hx, hb, hml, hown, hts⟩ (met_rss l D h1 d1 f w (zx_mo w x) 0 hf (by omega) (by decide)) (va_cwS 3 hts (lw_S q58 q59 q5 q60) rfl rfl rfl (by decide +kernel) ⟨Nat.le_of_ble_eq_true rfl, Nat.le_of_ble_eq_true rfl⟩) (zx_preS (hP.sub [1] rfl) hK) rfl rfl hl.1 rfl (lv_room (Nat.le_of_ble_eq_true rfl)) dX1_value_35 ⟨Nat.zero_le _, Nat.zero_le _⟩) ?_
    refine lv_goto (tgt := 42) hx hb dX1_value_38 (by decide) ?_
    exact W.iret (v := zx_rs w (zx_mo w x) 0) hx hb hr (fun u9 hu9 hw9 => ⟨congrArg (fun z => Outcome.returned (some (Value.int z))) (by unfold zx_va; rw [if_pos (by omega)]), hu9⟩) (fun q h9 => by cases h9) dX1_value_42
set_option maxHeartbeats 4000000 in
/-- withNarrow(most) -/
theorem met_dwithNarrow (l : Launch) (D : va_G) (h0 h1 : Nat) (d1 : ClassId) (f : Nat → Int32) (w : Nat → Nat) (hf : zx_ok f w) (x : Int32) : Met l yX1_withNarrow wsX1_withNarrow ({ frames := 2, cells := 0, slots := 0, locals := 57 }) (va_Pc [.ref h0, .int x] (zx_Rd D [(h0, .inr (0, [.ref h1])), (h1, .inl (d1, 4, .inl f))] [(d1, .int)])) (QcRead (zx_wn w x)) 0 0 (fun _ => False) := by
  refine Met.ofW (cc := cX1_withNarrow) (maxL := 4) (ret := (some .int)) (by decide) rfl ?_
  intro p e s m args below meth c s₁ B hml hv
  obtain ⟨ha, hP, hK⟩ := hv
  have hx := B.exec
  have hb := B.bytes
  have hr := B.returns
  have hts := atoms_spec (ws := wsX1_withNarrow) B.pre
  have hts : ∀ w ∈ lw_all, w.before _ s = true := fun w h => hts w (List.mem_cons_of_mem _ h)
  have hown : s.vm.findClass RX1 = some m.cls := findClass_of_methodNamed B.named
  have hlocks := B.notSynchronized
  subst ha
  have hl := lv_entry [.ref h0, .int x] (n := 4) (Nat.le_of_ble_eq_true rfl)
  rw [lg_entry_eq]
  generalize (lg_sl [.ref h0, .int x] ++ List.replicate (4 - (lg_sl [.ref h0, .int x]).length) Slot.unset).toArray = ls at hl ⊢
  have hl : lv_has ls 4 [(0, .ref h0), (1, .int x)] := hl
  have hm1 := zx_mx_le w hf.2
  have hmo := zx_mo_le w hf.2 x
  have hsm := zx_sm_le w hf.2
  refine lv_aload_n hx hb dX1_withNarrow_0 rfl (lv_at hl 0 rfl) ?_
  refine zx_callR (W.runV (As := []) (rest := []) ⟨hx, hb, hml, hown, hts⟩ (met_dwidest l D h0 h1 d1 f w hf) (cwV 0 hts (lw_V q49 q51 qs0 q4 q52) rfl rfl rfl (by decide +kernel) ⟨Nat.le_of_ble_eq_true rfl, Nat.le_of_ble_eq_true rfl⟩) (zx_preV hP hK rfl) rfl rfl hl.1 rfl (lv_room (Nat.le_of_ble_eq_true rfl)) dX1_withNarrow_1 ⟨Nat.zero_le _, Nat.zero_le _⟩) ?_
  refine lv_istore_n (lv' := [(2, .int (nI (zx_mx w))), (0, .ref h0), (1, .int x)]) hx hb dX1_withNarrow_4 rfl hl (by decide) rfl (fun ls hl => ?_)
  refine lv_iload_n hx hb dX1_withNarrow_5 rfl (lv_at hl 0 rfl) ?_
  refine lv_iload_n hx hb dX1_withNarrow_6 rfl (lv_at hl 2 rfl) ?_
  refine lv_ldc hx hb hown (hts _ q53) dX1_withNarrow_7 ?_
  refine lv_iand hx hb dX1_withNarrow_9 ?_
  refine zx_tp (y := nI (zx_ab x)) (zx_ab_eq x) ?_
  refine lv_bipush (v := nI 9) hx hb dX1_withNarrow_10 (by decide) ?_
  refine lv_iload_n hx hb dX1_withNarrow_12 rfl (lv_at hl 0 rfl) ?_
  refine lv_isub hx hb dX1_withNarrow_13 ?_
  refine zx_tp (y := nI (9 - (zx_mx w))) (zx_sub (by omega) rfl) ?_
  refine lv_irem hx hb dX1_withNarrow_14 (nI_ne0 (by omega) (by omega)) ?_
  refine zx_tp (y := nI (zx_ab x % (9 - zx_mx w))) (pk_rem (zx_ab_lt x) (by omega) (by omega)) ?_
  refine lv_iadd hx hb dX1_withNarrow_15 ?_
  refine zx_tp (y := nI (zx_mo w x)) (zx_add rfl) ?_
  refine lv_istore_n (lv' := [(3, .int (nI (zx_mo w x))), (2, .int (nI (zx_mx w))), (0, .ref h0), (1, .int x)]) hx hb dX1_withNarrow_16 rfl hl (by decide) rfl (fun ls hl => ?_)
  refine lv_aload_n hx hb dX1_withNarrow_17 rfl (lv_at hl 2 rfl) ?_
  refine zx_callR (W.runV (As := []) (rest := []) ⟨hx, hb, hml, hown, hts⟩ (met_dnarrow l D h0 h1 d1 f w hf) (cwV 0 hts (lw_V q68 q70 qs2 q4 q71) rfl rfl rfl (by decide +kernel) ⟨Nat.le_of_ble_eq_true rfl, Nat.le_of_ble_eq_true rfl⟩) (zx_preV hP hK rfl) rfl rfl hl.1 rfl (lv_room (Nat.le_of_ble_eq_true rfl)) dX1_withNarrow_18 ⟨Nat.zero_le _, Nat.zero_le _⟩) ?_
  have hnr := zx_nr_lt w
  refine lv_if_eq (tgt := 59) hx hb dX1_withNarrow_21 (by decide) (fun c_21 => ?_) (fun c_21 => ?_)
  ·
    have c_21 : zx_nr w = 0 := (nI_eq (a := zx_nr w) (b := 0) (by omega) (by omega)).mp c_21
    refine lv_iconst (v := (-1)) hx hb dX1_withNarrow_59 (by decide) ?_
    exact W.iret (v := (-1)) hx hb hr (fun u9 hu9 hw9 => ⟨congrArg (fun z => Outcome.returned (some (Value.int z))) (by unfold zx_wn; rw [if_neg (by omega)]), hu9⟩) (fun q h9 => by cases h9) dX1_withNarrow_60
  ·
    have c_21 : ¬ (zx_nr w = 0) := fun h9 => c_21 ((nI_eq (a := zx_nr w) (b := 0) (by omega) (by omega)).mpr h9)
    refine lv_aload_n hx hb dX1_withNarrow_24 rfl (lv_at hl 2 rfl) ?_
    refine zx_callR (W.runV (As := []) (rest := []) ⟨hx, hb, hml, hown, hts⟩ (met_dsum l D h0 h1 d1 f w hf) (cwV 0 hts (lw_V q54 q56 qs1 q4 q57) rfl rfl rfl (by decide +kernel) ⟨Nat.le_of_ble_eq_true rfl, Nat.le_of_ble_eq_true rfl⟩) (zx_preV hP hK rfl) rfl rfl hl.1 rfl (lv_room (Nat.le_of_ble_eq_true rfl)) dX1_withNarrow_25 ⟨Nat.zero_le _, Nat.zero_le _⟩) ?_
    refine lv_iload_n hx hb dX1_withNarrow_28 rfl (lv_at hl 0 rfl) ?_
    refine lv_bipush (v := nI 7) hx hb dX1_withNarrow_29 (by decide) ?_
    refine lv_iadd hx hb dX1_withNarrow_31 ?_
    refine zx_tp (y := nI (zx_mo w x + 7)) (zx_add rfl) ?_
    refine lv_icmp_ge (tgt := 59) hx hb dX1_withNarrow_32 (by decide) (fun c_32 => ?_) (fun c_32 => ?_)
    ·
      have c_32 : zx_mo w x + 7 ≤ zx_sm w := (nI_leI (a := zx_mo w x + 7) (b := zx_sm w) (by omega) (by omega)).mp c_32
      refine lv_iconst (v := (-1)) hx hb dX1_withNarrow_59 (by decide) ?_
      exact W.iret (v := (-1)) hx hb hr (fun u9 hu9 hw9 => ⟨congrArg (fun z => Outcome.returned (some (Value.int z))) (by unfold zx_wn; rw [if_neg (by omega)]), hu9⟩) (fun q h9 => by cases h9) dX1_withNarrow_60
    ·
      have c_32 : ¬ (zx_mo w x + 7 ≤ zx_sm w) := fun h9 => c_32 ((nI_leI (a := zx_mo w x + 7) (b := zx_sm w) (by omega) (by omega)).mpr h9)
      refine lv_aload_n hx hb dX1_withNarrow_35 rfl (lv_at hl 2 rfl) ?_
      refine zx_callR (W.runV (As := []) (rest := []) ⟨hx, hb, hml, hown, hts⟩ (met_dsum l D h0 h1 d1 f w hf) (cwV 0 hts (lw_V q54 q56 qs1 q4 q57) rfl rfl rfl (by decide +kernel) ⟨Nat.le_of_ble_eq_true rfl, Nat.le_of_ble_eq_true rfl⟩) (zx_preV hP hK rfl) rfl rfl hl.1 rfl (lv_room (Nat.le_of_ble_eq_true rfl)) dX1_withNarrow_36 ⟨Nat.zero_le _, Nat.zero_le _⟩) ?_
      refine lv_iconst (v := nI 2) hx hb dX1_withNarrow_39 (by decide) ?_
      refine lv_iload_n hx hb dX1_withNarrow_40 rfl (lv_at hl 0 rfl) ?_
      refine lv_imul hx hb dX1_withNarrow_41 ?_
      refine zx_tp (y := nI (2 * (zx_mo w x))) (zx_mul rfl) ?_
      refine lv_iconst (v := nI 4) hx hb dX1_withNarrow_42 (by decide) ?_
      refine lv_iadd hx hb dX1_withNarrow_43 ?_
      refine zx_tp (y := nI (2 * (zx_mo w x) + 4)) (zx_add rfl) ?_
      refine lv_icmp_ge (tgt := 59) hx hb dX1_withNarrow_44 (by decide) (fun c_44 => ?_) (fun c_44 => ?_)
      ·
        have c_44 : 2 * (zx_mo w x) + 4 ≤ zx_sm w := (nI_leI (a := 2 * (zx_mo w x) + 4) (b := zx_sm w) (by omega) (by omega)).mp c_44
        refine lv_iconst (v := (-1)) hx hb dX1_withNarrow_59 (by decide) ?_
        exact W.iret (v := (-1)) hx hb hr (fun u9 hu9 hw9 => ⟨congrArg (fun z => Outcome.returned (some (Value.int z))) (by unfold zx_wn; rw [if_neg (by omega)]), hu9⟩) (fun q h9 => by cases h9) dX1_withNarrow_60
      ·
        have c_44 : ¬ (2 * (zx_mo w x) + 4 ≤ zx_sm w) := fun h9 => c_44 ((nI_leI (a := 2 * (zx_mo w x) + 4) (b := zx_sm w) (by omega) (by omega)).mpr h9)
        refine lv_aload_n hx hb dX1_withNarrow_47 rfl (lv_at hl 2 rfl) ?_
        refine va_get (D := D) (ci := 0) (v := .ref h1) (C := RX1) (T := TX1) (N := 1) hx hb hts in_X1 hown hK hP 0 rfl rfl 0 (by decide) (hts _ q14) (fun _ h9 => h9) rfl dX1_withNarrow_48 ?_
        refine lv_iload_n hx hb dX1_withNarrow_51 rfl (lv_at hl 0 rfl) ?_
        refine lv_iconst (v := nI 1) hx hb dX1_withNarrow_52 (by decide) ?_
        refine zx_callR (W.runS (As := [.ref h1, .int (nI (zx_mo w x)), .int (nI 1)]) (rest := []) ⟨hx, hb, hml, hown, hts⟩ (met_rss l D h1 d1 f w (zx_mo w x) 1 hf (by omega) (by decide)) (va_cwS 3 hts (lw_S q58 q59 q5 q60) rfl rfl rfl (by decide +kernel) ⟨Nat.le_of_ble_eq_true rfl, Nat.le_of_ble_eq_true rfl⟩) (zx_preS (hP.sub [1] rfl) hK) rfl rfl hl.1 rfl (lv_room (Nat.le_of_ble_eq_true rfl)) dX1_withNarrow_53 ⟨Nat.zero_le _, Nat.zero_le _⟩) ?_
        refine lv_goto (tgt := 60) hx hb dX1_withNarrow_56 (by decide) ?_
        exact W.iret (v := zx_rs w (zx_mo w x) 1) hx hb hr (fun u9 hu9 hw9 => ⟨congrArg (fun z => Outcome.returned (some (Value.int z))) (by unfold zx_wn; rw [if_pos (by omega)]), hu9⟩) (fun q h9 => by cases h9) dX1_withNarrow_60
end
section
set_option maxRecDepth 100000
/-! the law's own methods that read only: most, ahead -/
theorem zx_de0 (S a b c : Nat) : (nI S) - (nI a) - (nI b) - (nI c) = nI S - nI (a + b + c) := by
  rw [← nI_add, ← nI_add]
  grind
theorem zx_de {S a b c : Nat} (h : a + b + c ≤ S) : (nI S) - (nI a) - (nI b) - (nI c) = nI (S - (a + b + c)) := by
  rw [zx_de0, pk_sub h]
theorem zx_dd {S a b c : Nat} (hS : S < 1000) (h : a + b + c < 1000) : (nI S) - (nI a) - (nI b) - (nI c) < nI 1 ↔ ¬ (a + b + c + 1 ≤ S) := by
  rw [zx_de0, Int32.lt_iff_toInt_lt, pk_sub_toInt (by omega) (by omega), nI_toInt (by decide)]
  omega
set_option maxHeartbeats 4000000 in
/-- most(w, n) -/
theorem met_most (l : Launch) (D : va_G) (h0 : Nat) (d0 : ClassId) (f : Nat → Int32) (w : Nat → Nat) (hf : zx_ok f w) (x : Int32) : Met l yX0_most wsX0_most ({ frames := 1, cells := 0, slots := 0, locals := 25 }) (va_Pc [.ref h0, .int x] (zx_Rd D [(h0, .inl (d0, 4, .inl f))] [(d0, .int)])) (QcRead (nI (zx_mo w x))) 0 0 (fun _ => False) := by
  refine Met.ofW (cc := cX0_most) (maxL := 2) (ret := (some .int)) (by decide) rfl ?_
  intro p e s m args below meth c s₁ B hml hv
  obtain ⟨ha, hP, hK⟩ := hv
  have hx := B.exec
  have hb := B.bytes
  have hr := B.returns
  have hts := atoms_spec (ws := wsX0_most) B.pre
  have hts : ∀ w ∈ lw_all, w.before _ s = true := fun w h => hts w (List.mem_cons_of_mem _ h)
  have hown : s.vm.findClass RX0 = some m.cls := findClass_of_methodNamed B.named
  have hlocks := B.notSynchronized
  subst ha
  have hl := lv_entry [.ref h0, .int x] (n := 2) (Nat.le_of_ble_eq_true rfl)
  rw [lg_entry_eq]
  generalize (lg_sl [.ref h0, .int x] ++ List.replicate (2 - (lg_sl [.ref h0, .int x]).length) Slot.unset).toArray = ls at hl ⊢
  have hl : lv_has ls 2 [(0, .ref h0), (1, .int x)] := hl
  have hm1 := zx_mx_le w hf.2
  refine lv_aload_n hx hb dX0_most_0 rfl (lv_at hl 0 rfl) ?_
  refine zx_callR (W.runS (As := [.ref h0]) (rest := []) ⟨hx, hb, hml, hown, hts⟩ (met_widest l D h0 d0 f w hf) (va_cwS 1 hts (lw_S q32 q33 q3 q34) rfl rfl rfl (by decide +kernel) ⟨Nat.le_of_ble_eq_true rfl, Nat.le_of_ble_eq_true rfl⟩) (zx_preS hP hK) rfl rfl hl.1 rfl (lv_room (Nat.le_of_ble_eq_true rfl)) dX0_most_1 ⟨Nat.zero_le _, Nat.zero_le _⟩) ?_
  refine lv_iload_n hx hb dX0_most_4 rfl (lv_at hl 1 rfl) ?_
  refine lv_ldc hx hb hown (hts _ q35) dX0_most_5 ?_
  refine lv_iand hx hb dX0_most_7 ?_
  refine zx_tp (y := nI (zx_ab x)) (zx_ab_eq x) ?_
  refine lv_bipush (v := nI 9) hx hb dX0_most_8 (by decide) ?_
  refine lv_aload_n hx hb dX0_most_10 rfl (lv_at hl 0 rfl) ?_
  refine zx_callR (W.runS (As := [.ref h0]) (rest := [.int (nI 9), .int (nI (zx_ab x)), .int (nI (zx_mx w))]) ⟨hx, hb, hml, hown, hts⟩ (met_widest l D h0 d0 f w hf) (va_cwS 1 hts (lw_S q32 q33 q3 q34) rfl rfl rfl (by decide +kernel) ⟨Nat.le_of_ble_eq_true rfl, Nat.le_of_ble_eq_true rfl⟩) (zx_preS hP hK) rfl rfl hl.1 rfl (lv_room (Nat.le_of_ble_eq_true rfl)) dX0_most_11 ⟨Nat.zero_le _, Nat.zero_le _⟩) ?_
  refine lv_isub hx hb dX0_most_14 ?_
  refine zx_tp (y := nI (9 - (zx_mx w))) (zx_sub (by omega) rfl) ?_
  refine lv_irem hx hb dX0_most_15 (nI_ne0 (by omega) (by omega)) ?_
  refine zx_tp (y := nI (zx_ab x % (9 - zx_mx w))) (pk_rem (zx_ab_lt x) (by omega) (by omega)) ?_
  refine lv_iadd hx hb dX0_most_16 ?_
  refine zx_tp (y := nI (zx_mo w x)) (zx_add rfl) ?_
  exact W.iret (v := nI (zx_mo w x)) hx hb hr (fun u9 hu9 hw9 => ⟨congrArg (fun z => Outcome.returned (some (Value.int z))) (rfl), hu9⟩) (fun q h9 => by cases h9) dX0_most_17
set_option maxHeartbeats 4000000 in
/-- ahead: the loop over c -/
theorem ah_39 {p : Program} {l : Launch} {e : Env} {s : State} {m : MethodId} {args : Array Value} {below : List Frame} {meth : Method} {c0 : Code} {Q : State → Prop} {h0 : Nat} (hx : p.tables.exec = Jvm.exec) (hb : c0.code = cX0_ahead) (hml : c0.maxLocals = 9) (hown : s.vm.findClass RX0 = some m.cls) (hts : ∀ w ∈ lw_all, w.before args s = true) {D : va_G} {d0 : ClassId} {f : Nat → Int32} {w : Nat → Nat} (hf : zx_ok f w) (hP : va_P D vwCl [(h0, .inl (d0, 4, .inl f))] s.heap) (hK : va_K D vwCl [(d0, .int)] s) (M nr a b : Nat) (hM : M ≤ 8) (hnr : nr < 2) (ha : 1 ≤ a ∧ a ≤ 8) (hbb : 1 ≤ b ∧ b ≤ 8) : ∀ (n c z : Nat), c + n = M + 1 → 1 ≤ c → (∀ (ls : Array Slot), lv_has ls 9 [(0, .ref h0), (1, .int (nI M)), (2, .int (nI nr)), (3, .int (nI (zx_sF (fun c => zx_tt w M nr a b c) n c z))), (4, .int (nI a)), (5, .int (nI b))] → W p l e (headSpec wsX0_ahead ({ frames := 1, cells := 0, slots := 0, locals := 23 })).room s m args below meth c0 s.heap [] 0 0 Q (F0 m 135 ls [])) → ∀ (ls : Array Slot), lv_has ls 9 [(0, .ref h0), (1, .int (nI M)), (2, .int (nI nr)), (3, .int (nI z)), (4, .int (nI a)), (5, .int (nI b)), (6, .int (nI c))] → W p l e (headSpec wsX0_ahead ({ frames := 1, cells := 0, slots := 0, locals := 23 })).room s m args below meth c0 s.heap [] 0 0 Q (F0 m 39 ls []) := by
  have b0 := hf.2 0 (by decide)
  have b1 := hf.2 1 (by decide)
  have b2 := hf.2 2 (by decide)
  have b3 := hf.2 3 (by decide)
  have hsm := zx_sm_le w hf.2
  intro n
  induction n with
  | zero =>
    intro c z hc h1c KK ls hl
    refine lv_iload hx hb dX0_ahead_39 (lv_at hl 6 rfl) ?_
    refine lv_iload_n hx hb dX0_ahead_41 rfl (lv_at hl 1 rfl) ?_
    refine lv_icmp_gt (tgt := 135) hx hb dX0_ahead_42 (by decide) (fun c_42 => ?_) (fun c_42 => absurd ((nI_ltI (a := M) (b := c) (by omega) (by omega)).mpr (by omega)) c_42)
    exact KK ls (lv_sub hl [0, 1, 2, 3, 4, 5] rfl)
  | succ n ih =>
    intro c z hc h1c KK ls hl
    have K129 : ∀ (z1 : Nat), z1 = z + zx_tt w M nr a b c → ∀ (ls : Array Slot), lv_has ls 9 [(0, .ref h0), (1, .int (nI M)), (2, .int (nI nr)), (3, .int (nI z1)), (4, .int (nI a)), (5, .int (nI b)), (6, .int (nI c))] → W p l e (headSpec wsX0_ahead ({ frames := 1, cells := 0, slots := 0, locals := 23 })).room s m args below meth c0 s.heap [] 0 0 Q (F0 m 129 ls []) := by
      intro z1 hz1 ls hl
      refine lv_iinc (v := nI (c + 1)) (lv' := [(6, .int (nI (c + 1))), (0, .ref h0), (1, .int (nI M)), (2, .int (nI nr)), (3, .int (nI z1)), (4, .int (nI a)), (5, .int (nI b))]) hx hb dX0_ahead_129 hl (k := 6) rfl (zx_inc rfl) (by decide) rfl (fun ls hl => ?_)
      refine lv_goto (tgt := 39) hx hb dX0_ahead_132 (by decide) ?_
      subst hz1
      exact ih (c + 1) (z + zx_tt w M nr a b c) (by omega) (by omega) KK ls (lv_sub hl [1, 2, 3, 4, 5, 6, 0] rfl)
    have K89 : ∀ (lz : Nat) (dd : Int32), dd = (nI (zx_sm w)) - (nI a) - (nI b) - (nI c) → lz = (if a < w 0 ∨ b < w 1 ∨ c < w 2 then 1 else 0) → ∀ (ls : Array Slot), lv_has ls 9 [(0, .ref h0), (1, .int (nI M)), (2, .int (nI nr)), (3, .int (nI z)), (4, .int (nI a)), (5, .int (nI b)), (6, .int (nI c)), (7, .int dd)] → W p l e (headSpec wsX0_ahead ({ frames := 1, cells := 0, slots := 0, locals := 23 })).room s m args below meth c0 s.heap [] 0 0 Q (F0 m 89 ls [.int (nI lz)]) := by
      intro lz dd hdd hlz ls hl
      have hlz2 : lz < 2 := by rw [hlz]; by_cases h : a < w 0 ∨ b < w 1 ∨ c < w 2 <;> simp [h]
      refine lv_istore (lv' := [(8, .int (nI lz)), (0, .ref h0), (1, .int (nI M)), (2, .int (nI nr)), (3, .int (nI z)), (4, .int (nI a)), (5, .int (nI b)), (6, .int (nI c)), (7, .int dd)]) hx hb dX0_ahead_89 hl (by decide) rfl (fun ls hl => ?_)
      refine lv_iload hx hb dX0_ahead_91 (lv_at hl 0 rfl) ?_
      refine lv_if_eq (tgt := 129) hx hb dX0_ahead_93 (by decide) (fun c_93 => ?_) (fun c_93 => ?_)
      ·
        have c_93 : lz = 0 := (nI_eq (a := lz) (b := 0) (by omega) (by omega)).mp c_93
        have hless : ¬ (a < w 0 ∨ b < w 1 ∨ c < w 2) := fun h => by
          rw [if_pos h] at hlz
          omega
        exact K129 z (by unfold zx_tt; rw [if_neg (by omega)]; rfl) ls (lv_sub hl [1, 2, 3, 4, 5, 6, 7] rfl)
      ·
        have c_93 : ¬ (lz = 0) := fun h9 => c_93 ((nI_eq (a := lz) (b := 0) (by omega) (by omega)).mpr h9)
        have hless : a < w 0 ∨ b < w 1 ∨ c < w 2 := Decidable.not_not.mp (fun h => by
          rw [if_neg h] at hlz
          omega)
        refine lv_iload hx hb dX0_ahead_96 (lv_at hl 8 rfl) ?_
        refine lv_iconst (v := nI 1) hx hb dX0_ahead_98 (by decide) ?_
        refine lv_icmp_lt (tgt := 129) hx hb dX0_ahead_99 (by decide) (fun c_99 => ?_) (fun c_99 => ?_)
        ·
          have c_99 : ¬ (a + b + c + 1 ≤ zx_sm w) := (zx_dd (by omega) (by omega)).mp (by rw [hdd] at c_99; exact c_99)
          exact K129 z (by unfold zx_tt; rw [if_neg (by omega)]; rfl) ls (lv_sub hl [1, 2, 3, 4, 5, 6, 7] rfl)
        ·
          have c_99 : a + b + c + 1 ≤ zx_sm w := Decidable.not_not.mp (fun h => c_99 (by rw [hdd]; exact (zx_dd (by omega) (by omega)).mpr h))
          have hd2 : dd = nI (zx_sm w - (a + b + c)) := by rw [hdd]; exact zx_de (by omega)
          rw [hd2] at hl
          refine lv_iload hx hb dX0_ahead_102 (lv_at hl 8 rfl) ?_
          refine lv_iload_n hx hb dX0_ahead_104 rfl (lv_at hl 2 rfl) ?_
          refine lv_icmp_gt (tgt := 129) hx hb dX0_ahead_105 (by decide) (fun c_105 => ?_) (fun c_105 => ?_)
          ·
            have c_105 : M < zx_sm w - (a + b + c) := (nI_ltI (a := M) (b := zx_sm w - (a + b + c)) (by omega) (by omega)).mp c_105
            exact K129 z (by unfold zx_tt; rw [if_neg (by omega)]; rfl) ls (lv_sub hl [1, 2, 3, 4, 5, 6, 7] rfl)
          ·
            have c_105 : ¬ (M < zx_sm w - (a + b + c)) := fun h9 => c_105 ((nI_ltI (a := M) (b := zx_sm w - (a + b + c)) (by omega) (by omega)).mpr h9)
            refine lv_iload_n hx hb dX0_ahead_108 rfl (lv_at hl 3 rfl) ?_
            refine lv_if_eq (tgt := 126) hx hb dX0_ahead_109 (by decide) (fun c_109 => ?_) (fun c_109 => ?_)
            ·
              have c_109 : nr = 0 := (nI_eq (a := nr) (b := 0) (by omega) (by omega)).mp c_109
              refine lv_iinc (v := nI (z + 1)) (lv' := [(3, .int (nI (z + 1))), (8, .int (nI lz)), (0, .ref h0), (1, .int (nI M)), (2, .int (nI nr)), (4, .int (nI a)), (5, .int (nI b)), (6, .int (nI c)), (7, .int (nI (zx_sm w - (a + b + c))))]) hx hb dX0_ahead_126 hl (k := 4) rfl (zx_inc rfl) (by decide) rfl (fun ls hl => ?_)
              exact K129 (z + 1) (by unfold zx_tt; rw [if_pos (by omega)]) ls (lv_sub hl [2, 3, 4, 0, 5, 6, 7] rfl)
            ·
              have c_109 : ¬ (nr = 0) := fun h9 => c_109 ((nI_eq (a := nr) (b := 0) (by omega) (by omega)).mpr h9)
              refine lv_iload hx hb dX0_ahead_112 (lv_at hl 5 rfl) ?_
              refine lv_iload hx hb dX0_ahead_114 (lv_at hl 6 rfl) ?_
              refine lv_iload hx hb dX0_ahead_116 (lv_at hl 7 rfl) ?_
              refine lv_iload hx hb dX0_ahead_118 (lv_at hl 8 rfl) ?_
              refine zx_callR (W.runS (As := [.int (nI a), .int (nI b), .int (nI c), .int (nI (zx_sm w - (a + b + c)))]) (rest := []) ⟨hx, hb, hml, hown, hts⟩ (met_narrow l a b c (zx_sm w - (a + b + c)) (by omega)) (va_cwS 4 hts (lw_S q39 q40 q3 q41) rfl rfl rfl (by decide +kernel) ⟨Nat.le_of_ble_eq_true rfl, Nat.le_of_ble_eq_true rfl⟩) (zx_preN) rfl rfl hl.1 rfl (lv_room (Nat.le_of_ble_eq_true rfl)) dX0_ahead_120 ⟨Nat.zero_le _, Nat.zero_le _⟩) ?_
              have hn4 := zx_n4_iff a b c (zx_sm w - (a + b + c))
              have hn4b := zx_n4_lt a b c (zx_sm w - (a + b + c))
              refine lv_if_eq (tgt := 129) hx hb dX0_ahead_123 (by decide) (fun c_123 => ?_) (fun c_123 => ?_)
              ·
                have c_123 : zx_n4 a b c (zx_sm w - (a + b + c)) = 0 := (nI_eq (a := zx_n4 a b c (zx_sm w - (a + b + c))) (b := 0) (by omega) (by omega)).mp c_123
                have hnn := hn4.mp c_123
                exact K129 z (by unfold zx_tt; rw [if_neg (by omega)]; rfl) ls (lv_sub hl [1, 2, 3, 4, 5, 6, 7] rfl)
              ·
                have c_123 : ¬ (zx_n4 a b c (zx_sm w - (a + b + c)) = 0) := fun h9 => c_123 ((nI_eq (a := zx_n4 a b c (zx_sm w - (a + b + c))) (b := 0) (by omega) (by omega)).mpr h9)
                have hnn : a = 1 ∨ b = 1 ∨ c = 1 ∨ zx_sm w - (a + b + c) = 1 := Decidable.not_not.mp (fun h => c_123 (hn4.mpr h))
                refine lv_iinc (v := nI (z + 1)) (lv' := [(3, .int (nI (z + 1))), (8, .int (nI lz)), (0, .ref h0), (1, .int (nI M)), (2, .int (nI nr)), (4, .int (nI a)), (5, .int (nI b)), (6, .int (nI c)), (7, .int (nI (zx_sm w - (a + b + c))))]) hx hb dX0_ahead_126 hl (k := 4) rfl (zx_inc rfl) (by decide) rfl (fun ls hl => ?_)
                exact K129 (z + 1) (by unfold zx_tt; rw [if_pos (by omega)]) ls (lv_sub hl [2, 3, 4, 0, 5, 6, 7] rfl)
    refine lv_iload hx hb dX0_ahead_39 (lv_at hl 6 rfl) ?_
    refine lv_iload_n hx hb dX0_ahead_41 rfl (lv_at hl 1 rfl) ?_
    refine lv_icmp_gt (tgt := 135) hx hb dX0_ahead_42 (by decide) (fun c_42 => absurd ((nI_ltI (a := M) (b := c) (by omega) (by omega)).mp c_42) (by omega)) (fun c_42 => ?_)
    refine lv_aload_n hx hb dX0_ahead_45 rfl (lv_at hl 0 rfl) ?_
    refine zx_callR (W.runS (As := [.ref h0]) (rest := []) ⟨hx, hb, hml, hown, hts⟩ (met_sum l D h0 d0 f w hf) (va_cwS 1 hts (lw_S q36 q37 q3 q38) rfl rfl rfl (by decide +kernel) ⟨Nat.le_of_ble_eq_true rfl, Nat.le_of_ble_eq_true rfl⟩) (zx_preS hP hK) rfl rfl hl.1 rfl (lv_room (Nat.le_of_ble_eq_true rfl)) dX0_ahead_46 ⟨Nat.zero_le _, Nat.zero_le _⟩) ?_
    refine lv_iload hx hb dX0_ahead_49 (lv_at hl 4 rfl) ?_
    refine lv_isub hx hb dX0_ahead_51 ?_
    refine lv_iload hx hb dX0_ahead_52 (lv_at hl 5 rfl) ?_
    refine lv_isub hx hb dX0_ahead_54 ?_
    refine lv_iload hx hb dX0_ahead_55 (lv_at hl 6 rfl) ?_
    refine lv_isub hx hb dX0_ahead_57 ?_
    refine lv_topi (fun dd hdd => ?_)
    refine lv_istore (lv' := [(7, .int dd), (0, .ref h0), (1, .int (nI M)), (2, .int (nI nr)), (3, .int (nI z)), (4, .int (nI a)), (5, .int (nI b)), (6, .int (nI c))]) hx hb dX0_ahead_58 hl (by decide) rfl (fun ls hl => ?_)
    refine lv_iload hx hb dX0_ahead_60 (lv_at hl 5 rfl) ?_
    refine lv_aload_n hx hb dX0_ahead_62 rfl (lv_at hl 1 rfl) ?_
    refine lv_iconst (v := nI 0) hx hb dX0_ahead_63 (by decide) ?_
    refine va_iald hx hb hK hP 0 0 rfl rfl (vp_in_nI (by omega) (by decide)) dX0_ahead_64 ?_
    refine zx_tp (y := nI (w 0)) (zx_ld hf.1 (by omega) (by decide)) ?_
    refine lv_icmp_lt (tgt := 84) hx hb dX0_ahead_65 (by decide) (fun c_65 => ?_) (fun c_65 => ?_)
    ·
      have c_65 : a < w 0 := (nI_ltI (a := a) (b := w 0) (by omega) (by omega)).mp c_65
      refine lv_iconst (v := nI 1) hx hb dX0_ahead_84 (by decide) ?_
      refine lv_goto (tgt := 89) hx hb dX0_ahead_85 (by decide) ?_
      exact K89 1 dd hdd (by rw [if_pos (Or.inl c_65)]) ls (lv_sub hl [1, 2, 3, 4, 5, 6, 7, 0] rfl)
    ·
      have c_65 : ¬ (a < w 0) := fun h9 => c_65 ((nI_ltI (a := a) (b := w 0) (by omega) (by omega)).mpr h9)
      refine lv_iload hx hb dX0_ahead_68 (lv_at hl 6 rfl) ?_
      refine lv_aload_n hx hb dX0_ahead_70 rfl (lv_at hl 1 rfl) ?_
      refine lv_iconst (v := nI 1) hx hb dX0_ahead_71 (by decide) ?_
      refine va_iald hx hb hK hP 0 0 rfl rfl (vp_in_nI (by omega) (by decide)) dX0_ahead_72 ?_
      refine zx_tp (y := nI (w 1)) (zx_ld hf.1 (by omega) (by decide)) ?_
      refine lv_icmp_lt (tgt := 84) hx hb dX0_ahead_73 (by decide) (fun c_73 => ?_) (fun c_73 => ?_)
      ·
        have c_73 : b < w 1 := (nI_ltI (a := b) (b := w 1) (by omega) (by omega)).mp c_73
        refine lv_iconst (v := nI 1) hx hb dX0_ahead_84 (by decide) ?_
        refine lv_goto (tgt := 89) hx hb dX0_ahead_85 (by decide) ?_
        exact K89 1 dd hdd (by rw [if_pos (Or.inr (Or.inl c_73))]) ls (lv_sub hl [1, 2, 3, 4, 5, 6, 7, 0] rfl)
      ·
        have c_73 : ¬ (b < w 1) := fun h9 => c_73 ((nI_ltI (a := b) (b := w 1) (by omega) (by omega)).mpr h9)
        refine lv_iload hx hb dX0_ahead_76 (lv_at hl 7 rfl) ?_
        refine lv_aload_n hx hb dX0_ahead_78 rfl (lv_at hl 1 rfl) ?_
        refine lv_iconst (v := nI 2) hx hb dX0_ahead_79 (by decide) ?_
        refine va_iald hx hb hK hP 0 0 rfl rfl (vp_in_nI (by omega) (by decide)) dX0_ahead_80 ?_
        refine zx_tp (y := nI (w 2)) (zx_ld hf.1 (by omega) (by decide)) ?_
        refine lv_icmp_ge (tgt := 88) hx hb dX0_ahead_81 (by decide) (fun c_81 => ?_) (fun c_81 => ?_)
        ·
          have c_81 : w 2 ≤ c := (nI_leI (a := w 2) (b := c) (by omega) (by omega)).mp c_81
          refine lv_iconst (v := nI 0) hx hb dX0_ahead_88 (by decide) ?_
          exact K89 0 dd hdd (by rw [if_neg (by omega)]) ls (lv_sub hl [1, 2, 3, 4, 5, 6, 7, 0] rfl)
        ·
          have c_81 : ¬ (w 2 ≤ c) := fun h9 => c_81 ((nI_leI (a := w 2) (b := c) (by omega) (by omega)).mpr h9)
          refine lv_iconst (v := nI 1) hx hb dX0_ahead_84 (by decide) ?_
          refine lv_goto (tgt := 89) hx hb dX0_ahead_85 (by decide) ?_
          exact K89 1 dd hdd (by rw [if_pos (by omega)]) ls (lv_sub hl [1, 2, 3, 4, 5, 6, 7, 0] rfl)
set_option maxHeartbeats 4000000 in
/-- ahead: the loop over b -/
theorem ah_16 {p : Program} {l : Launch} {e : Env} {s : State} {m : MethodId} {args : Array Value} {below : List Frame} {meth : Method} {c0 : Code} {Q : State → Prop} {h0 : Nat} (hx : p.tables.exec = Jvm.exec) (hb : c0.code = cX0_ahead) (hml : c0.maxLocals = 9) (hown : s.vm.findClass RX0 = some m.cls) (hts : ∀ w ∈ lw_all, w.before args s = true) {D : va_G} {d0 : ClassId} {f : Nat → Int32} {w : Nat → Nat} (hf : zx_ok f w) (hP : va_P D vwCl [(h0, .inl (d0, 4, .inl f))] s.heap) (hK : va_K D vwCl [(d0, .int)] s) (M nr a tp : Nat) (hM : M ≤ 8) (hnr : nr < 2) (ha : 1 ≤ a ∧ a ≤ 8) (htp : tp = if a < w 0 then M else w 1) (ht8 : tp ≤ 8) : ∀ (n b z : Nat), b + n = tp + 1 → 1 ≤ b → (∀ (ls : Array Slot), lv_has ls 9 [(0, .ref h0), (1, .int (nI M)), (2, .int (nI nr)), (3, .int (nI (zx_sF (fun b => zx_sF (fun c => zx_tt w M nr a b c) M 1 0) n b z))), (4, .int (nI a))] → W p l e (headSpec wsX0_ahead ({ frames := 1, cells := 0, slots := 0, locals := 23 })).room s m args below meth c0 s.heap [] 0 0 Q (F0 m 141 ls [])) → ∀ (ls : Array Slot), lv_has ls 9 [(0, .ref h0), (1, .int (nI M)), (2, .int (nI nr)), (3, .int (nI z)), (4, .int (nI a)), (5, .int (nI b))] → W p l e (headSpec wsX0_ahead ({ frames := 1, cells := 0, slots := 0, locals := 23 })).room s m args below meth c0 s.heap [] 0 0 Q (F0 m 16 ls []) := by
  have b0 := hf.2 0 (by decide)
  have b1 := hf.2 1 (by decide)
  have b2 := hf.2 2 (by decide)
  have b3 := hf.2 3 (by decide)
  intro n
  induction n with
  | zero =>
    intro b z hbn h1b KK ls hl
    have K16 : (∀ (ls : Array Slot), lv_has ls 9 [(0, .ref h0), (1, .int (nI M)), (2, .int (nI nr)), (3, .int (nI z)), (4, .int (nI a)), (5, .int (nI b))] → W p l e (headSpec wsX0_ahead ({ frames := 1, cells := 0, slots := 0, locals := 23 })).room s m args below meth c0 s.heap [] 0 0 Q (F0 m 33 ls [.int (nI tp), .int (nI b)])) → ∀ (ls : Array Slot), lv_has ls 9 [(0, .ref h0), (1, .int (nI M)), (2, .int (nI nr)), (3, .int (nI z)), (4, .int (nI a)), (5, .int (nI b))] → W p l e (headSpec wsX0_ahead ({ frames := 1, cells := 0, slots := 0, locals := 23 })).room s m args below meth c0 s.heap [] 0 0 Q (F0 m 16 ls []) := by
      intro K33 ls hl
      refine lv_iload hx hb dX0_ahead_16 (lv_at hl 5 rfl) ?_
      refine lv_iload hx hb dX0_ahead_18 (lv_at hl 4 rfl) ?_
      refine lv_aload_n hx hb dX0_ahead_20 rfl (lv_at hl 0 rfl) ?_
      refine lv_iconst (v := nI 0) hx hb dX0_ahead_21 (by decide) ?_
      refine va_iald hx hb hK hP 0 0 rfl rfl (vp_in_nI (by omega) (by decide)) dX0_ahead_22 ?_
      refine zx_tp (y := nI (w 0)) (zx_ld hf.1 (by omega) (by decide)) ?_
      refine lv_icmp_ge (tgt := 30) hx hb dX0_ahead_23 (by decide) (fun c_23 => ?_) (fun c_23 => ?_)
      ·
        have c_23 : w 0 ≤ a := (nI_leI (a := w 0) (b := a) (by omega) (by omega)).mp c_23
        refine lv_aload_n hx hb dX0_ahead_30 rfl (lv_at hl 0 rfl) ?_
        refine lv_iconst (v := nI 1) hx hb dX0_ahead_31 (by decide) ?_
        refine va_iald hx hb hK hP 0 0 rfl rfl (vp_in_nI (by omega) (by decide)) dX0_ahead_32 ?_
        refine zx_tp (y := nI (w 1)) (zx_ld hf.1 (by omega) (by decide)) ?_
        have htp2 : w 1 = tp := by rw [htp, if_neg (by omega)]
        rw [htp2]
        exact K33 ls (lv_sub hl [0, 1, 2, 3, 4, 5] rfl)
      ·
        have c_23 : ¬ (w 0 ≤ a) := fun h9 => c_23 ((nI_leI (a := w 0) (b := a) (by omega) (by omega)).mpr h9)
        refine lv_iload_n hx hb dX0_ahead_26 rfl (lv_at hl 1 rfl) ?_
        refine lv_goto (tgt := 33) hx hb dX0_ahead_27 (by decide) ?_
        have htp2 : M = tp := by rw [htp, if_pos (by omega)]
        have K33b := K33 ls (lv_sub hl [0, 1, 2, 3, 4, 5] rfl)
        rw [← htp2] at K33b
        exact K33b
    refine K16 (fun ls hl => ?_) ls hl
    refine lv_icmp_gt (tgt := 141) hx hb dX0_ahead_33 (by decide) (fun c_33 => ?_) (fun c_33 => absurd ((nI_ltI (a := tp) (b := b) (by omega) (by omega)).mpr (by omega)) c_33)
    exact KK ls (lv_sub hl [0, 1, 2, 3, 4] rfl)
  | succ n ih =>
    intro b z hbn h1b KK ls hl
    have K16 : (∀ (ls : Array Slot), lv_has ls 9 [(0, .ref h0), (1, .int (nI M)), (2, .int (nI nr)), (3, .int (nI z)), (4, .int (nI a)), (5, .int (nI b))] → W p l e (headSpec wsX0_ahead ({ frames := 1, cells := 0, slots := 0, locals := 23 })).room s m args below meth c0 s.heap [] 0 0 Q (F0 m 33 ls [.int (nI tp), .int (nI b)])) → ∀ (ls : Array Slot), lv_has ls 9 [(0, .ref h0), (1, .int (nI M)), (2, .int (nI nr)), (3, .int (nI z)), (4, .int (nI a)), (5, .int (nI b))] → W p l e (headSpec wsX0_ahead ({ frames := 1, cells := 0, slots := 0, locals := 23 })).room s m args below meth c0 s.heap [] 0 0 Q (F0 m 16 ls []) := by
      intro K33 ls hl
      refine lv_iload hx hb dX0_ahead_16 (lv_at hl 5 rfl) ?_
      refine lv_iload hx hb dX0_ahead_18 (lv_at hl 4 rfl) ?_
      refine lv_aload_n hx hb dX0_ahead_20 rfl (lv_at hl 0 rfl) ?_
      refine lv_iconst (v := nI 0) hx hb dX0_ahead_21 (by decide) ?_
      refine va_iald hx hb hK hP 0 0 rfl rfl (vp_in_nI (by omega) (by decide)) dX0_ahead_22 ?_
      refine zx_tp (y := nI (w 0)) (zx_ld hf.1 (by omega) (by decide)) ?_
      refine lv_icmp_ge (tgt := 30) hx hb dX0_ahead_23 (by decide) (fun c_23 => ?_) (fun c_23 => ?_)
      ·
        have c_23 : w 0 ≤ a := (nI_leI (a := w 0) (b := a) (by omega) (by omega)).mp c_23
        refine lv_aload_n hx hb dX0_ahead_30 rfl (lv_at hl 0 rfl) ?_
        refine lv_iconst (v := nI 1) hx hb dX0_ahead_31 (by decide) ?_
        refine va_iald hx hb hK hP 0 0 rfl rfl (vp_in_nI (by omega) (by decide)) dX0_ahead_32 ?_
        refine zx_tp (y := nI (w 1)) (zx_ld hf.1 (by omega) (by decide)) ?_
        have htp2 : w 1 = tp := by rw [htp, if_neg (by omega)]
        rw [htp2]
        exact K33 ls (lv_sub hl [0, 1, 2, 3, 4, 5] rfl)
      ·
        have c_23 : ¬ (w 0 ≤ a) := fun h9 => c_23 ((nI_leI (a := w 0) (b := a) (by omega) (by omega)).mpr h9)
        refine lv_iload_n hx hb dX0_ahead_26 rfl (lv_at hl 1 rfl) ?_
        refine lv_goto (tgt := 33) hx hb dX0_ahead_27 (by decide) ?_
        have htp2 : M = tp := by rw [htp, if_pos (by omega)]
        have K33b := K33 ls (lv_sub hl [0, 1, 2, 3, 4, 5] rfl)
        rw [← htp2] at K33b
        exact K33b
    refine K16 (fun ls hl => ?_) ls hl
    refine lv_icmp_gt (tgt := 141) hx hb dX0_ahead_33 (by decide) (fun c_33 => absurd ((nI_ltI (a := tp) (b := b) (by omega) (by omega)).mp c_33) (by omega)) (fun c_33 => ?_)
    refine lv_iconst (v := nI 1) hx hb dX0_ahead_36 (by decide) ?_
    refine lv_istore (lv' := [(6, .int (nI 1)), (0, .ref h0), (1, .int (nI M)), (2, .int (nI nr)), (3, .int (nI z)), (4, .int (nI a)), (5, .int (nI b))]) hx hb dX0_ahead_37 hl (by decide) rfl (fun ls hl => ?_)
    refine ah_39 hx hb hml hown hts hf hP hK M nr a b hM hnr ha (by omega) M 1 z (by omega) (Nat.le_refl 1) (fun ls hl => ?_) ls (lv_sub hl [1, 2, 3, 4, 5, 6, 0] rfl)
    refine lv_iinc (v := nI (b + 1)) (lv' := [(5, .int (nI (b + 1))), (0, .ref h0), (1, .int (nI M)), (2, .int (nI nr)), (3, .int (nI (zx_sF (fun c => zx_tt w M nr a b c) M 1 z))), (4, .int (nI a))]) hx hb dX0_ahead_135 hl (k := 5) rfl (zx_inc rfl) (by decide) rfl (fun ls hl => ?_)
    refine lv_goto (tgt := 16) hx hb dX0_ahead_138 (by decide) ?_
    have hadd := zx_sF_add (fun c => zx_tt w M nr a b c) M 1 z
    rw [hadd] at hl
    exact ih (b + 1) (z + zx_sF (fun c => zx_tt w M nr a b c) M 1 0) (by omega) (by omega) KK ls (lv_sub hl [1, 2, 3, 4, 5, 0] rfl)
set_option maxHeartbeats 4000000 in
/-- ahead(w, most, withNarrow) -/
theorem met_ahead (l : Launch) (D : va_G) (h0 : Nat) (d0 : ClassId) (f : Nat → Int32) (w : Nat → Nat) (hf : zx_ok f w) (M nr : Nat) (hM : M ≤ 8) (hnr : nr < 2) : Met l yX0_ahead wsX0_ahead ({ frames := 1, cells := 0, slots := 0, locals := 23 }) (va_Pc [.ref h0, .int (nI M), .int (nI nr)] (zx_Rd D [(h0, .inl (d0, 4, .inl f))] [(d0, .int)])) (QcRead (nI (zx_ah w M nr))) 0 0 (fun _ => False) := by
  refine Met.ofW (cc := cX0_ahead) (maxL := 9) (ret := (some .int)) (by decide) rfl ?_
  intro p e s m args below meth c s₁ B hml hv
  obtain ⟨ha, hP, hK⟩ := hv
  have hx := B.exec
  have hb := B.bytes
  have hr := B.returns
  have hts := atoms_spec (ws := wsX0_ahead) B.pre
  have hts : ∀ w ∈ lw_all, w.before _ s = true := fun w h => hts w (List.mem_cons_of_mem _ h)
  have hown : s.vm.findClass RX0 = some m.cls := findClass_of_methodNamed B.named
  have hlocks := B.notSynchronized
  subst ha
  have hl := lv_entry [.ref h0, .int (nI M), .int (nI nr)] (n := 9) (Nat.le_of_ble_eq_true rfl)
  rw [lg_entry_eq]
  generalize (lg_sl [.ref h0, .int (nI M), .int (nI nr)] ++ List.replicate (9 - (lg_sl [.ref h0, .int (nI M), .int (nI nr)]).length) Slot.unset).toArray = ls at hl ⊢
  have hl : lv_has ls 9 [(0, .ref h0), (1, .int (nI M)), (2, .int (nI nr))] := hl
  have b0 := hf.2 0 (by decide)
  have b1 := hf.2 1 (by decide)
  have b2 := hf.2 2 (by decide)
  have b3 := hf.2 3 (by decide)
  have K5 : ∀ (n a z : Nat), a + n = w 0 + 1 → 1 ≤ a → zx_sF (fun a => zx_sF (fun b => zx_sF (fun c => zx_tt w M nr a b c) M 1 0) (if a < w 0 then M else w 1) 1 0) n a z = zx_ah w M nr → ∀ (ls : Array Slot), lv_has ls 9 [(0, .ref h0), (1, .int (nI M)), (2, .int (nI nr)), (3, .int (nI z)), (4, .int (nI a))] → W p l e (headSpec wsX0_ahead ({ frames := 1, cells := 0, slots := 0, locals := 23 })).room s m ([.ref h0, .int (nI M), .int (nI nr)] : List Value).toArray below meth c s.heap [] 0 0 (MQ below (QcRead (nI (zx_ah w M nr))) ([.ref h0, .int (nI M), .int (nI nr)] : List Value).toArray s 0 0 (fun _ => False)) (F0 m 5 ls []) := by
    intro n
    induction n with
    | zero =>
      intro a z han h1a hV ls hl
      refine lv_iload hx hb dX0_ahead_5 (lv_at hl 4 rfl) ?_
      refine lv_aload_n hx hb dX0_ahead_7 rfl (lv_at hl 0 rfl) ?_
      refine lv_iconst (v := nI 0) hx hb dX0_ahead_8 (by decide) ?_
      refine va_iald hx hb hK hP 0 0 rfl rfl (vp_in_nI (by omega) (by decide)) dX0_ahead_9 ?_
      refine zx_tp (y := nI (w 0)) (zx_ld hf.1 (by omega) (by decide)) ?_
      refine lv_icmp_gt (tgt := 147) hx hb dX0_ahead_10 (by decide) (fun c_10 => ?_) (fun c_10 => absurd ((nI_ltI (a := w 0) (b := a) (by omega) (by omega)).mpr (by omega)) c_10)
      refine lv_iload_n hx hb dX0_ahead_147 rfl (lv_at hl 3 rfl) ?_
      exact W.iret (v := nI z) hx hb hr (fun u9 hu9 hw9 => ⟨congrArg (fun z => Outcome.returned (some (Value.int z))) (congrArg nI hV), hu9⟩) (fun q h9 => by cases h9) dX0_ahead_148
    | succ n ih =>
      intro a z han h1a hV ls hl
      refine lv_iload hx hb dX0_ahead_5 (lv_at hl 4 rfl) ?_
      refine lv_aload_n hx hb dX0_ahead_7 rfl (lv_at hl 0 rfl) ?_
      refine lv_iconst (v := nI 0) hx hb dX0_ahead_8 (by decide) ?_
      refine va_iald hx hb hK hP 0 0 rfl rfl (vp_in_nI (by omega) (by decide)) dX0_ahead_9 ?_
      refine zx_tp (y := nI (w 0)) (zx_ld hf.1 (by omega) (by decide)) ?_
      refine lv_icmp_gt (tgt := 147) hx hb dX0_ahead_10 (by decide) (fun c_10 => absurd ((nI_ltI (a := w 0) (b := a) (by omega) (by omega)).mp c_10) (by omega)) (fun c_10 => ?_)
      refine lv_iconst (v := nI 1) hx hb dX0_ahead_13 (by decide) ?_
      refine lv_istore (lv' := [(5, .int (nI 1)), (0, .ref h0), (1, .int (nI M)), (2, .int (nI nr)), (3, .int (nI z)), (4, .int (nI a))]) hx hb dX0_ahead_14 hl (by decide) rfl (fun ls hl => ?_)
      have htp8 : (if a < w 0 then M else w 1) ≤ 8 := by
        by_cases h : a < w 0
        · rw [if_pos h]; exact hM
        · rw [if_neg h]; exact b1.2
      refine ah_16 hx hb hml hown hts hf hP hK M nr a (if a < w 0 then M else w 1) hM hnr (by omega) rfl htp8 (if a < w 0 then M else w 1) 1 z (by omega) (Nat.le_refl 1) (fun ls hl => ?_) ls (lv_sub hl [1, 2, 3, 4, 5, 0] rfl)
      refine lv_iinc (v := nI (a + 1)) (lv' := [(4, .int (nI (a + 1))), (0, .ref h0), (1, .int (nI M)), (2, .int (nI nr)), (3, .int (nI (zx_sF (fun b => zx_sF (fun c => zx_tt w M nr a b c) M 1 0) (if a < w 0 then M else w 1) 1 z)))]) hx hb dX0_ahead_141 hl (k := 4) rfl (zx_inc rfl) (by decide) rfl (fun ls hl => ?_)
      refine lv_goto (tgt := 5) hx hb dX0_ahead_144 (by decide) ?_
      have hadd := zx_sF_add (fun b => zx_sF (fun c => zx_tt w M nr a b c) M 1 0) (if a < w 0 then M else w 1) 1 z
      rw [hadd] at hl
      exact ih (a + 1) (z + zx_sF (fun b => zx_sF (fun c => zx_tt w M nr a b c) M 1 0) (if a < w 0 then M else w 1) 1 0) (by omega) (by omega) hV ls (lv_sub hl [1, 2, 3, 4, 0] rfl)
  refine lv_iconst (v := nI 0) hx hb dX0_ahead_0 (by decide) ?_
  refine lv_istore_n (lv' := [(3, .int (nI 0)), (0, .ref h0), (1, .int (nI M)), (2, .int (nI nr))]) hx hb dX0_ahead_1 rfl hl (by decide) rfl (fun ls hl => ?_)
  refine lv_iconst (v := nI 1) hx hb dX0_ahead_2 (by decide) ?_
  refine lv_istore (lv' := [(4, .int (nI 1)), (3, .int (nI 0)), (0, .ref h0), (1, .int (nI M)), (2, .int (nI nr))]) hx hb dX0_ahead_3 hl (by decide) rfl (fun ls hl => ?_)
  exact K5 (w 0) 1 0 (by omega) (Nat.le_refl 1) rfl ls (lv_sub hl [2, 3, 4, 1, 0] rfl)
end
section
set_option maxRecDepth 100000
/-! BarValueDesk: its methods that write; the law's cell -/
/-- what a method that writes is given, and leaves -/
def zx_Wr (D : va_G) (ws : va_W) (tys : List (ClassId × FieldType)) (sz : Nat) (U : State) : Prop := U.heap.size = sz ∧ va_P D vwCl ws U.heap ∧ va_K D vwCl tys U ∧ va_D (fun _ => True) ws
def zx_Wp (D : va_G) (ws : va_W) (tys : List (ClassId × FieldType)) (A : Nat → Prop) (t : State) : Prop := va_P D vwCl ws t.heap ∧ va_K D vwCl tys t ∧ va_D A ws
theorem zx_Wr.blind {D : va_G} {ws : va_W} {tys : List (ClassId × FieldType)} {sz : Nat} {As : List Value} : FrameBlind (va_Pc As (zx_Wr D ws tys sz)) := fun a U g mk q => ⟨q.1, q.2.1, q.2.2.1, va_K.moved (u := U) (U := U.calling g mk a) (Vm.Alike.refl U.vm) q.2.2.2.1, q.2.2.2.2⟩
theorem zx_preSw {D : va_G} {ws : va_W} {tys : List (ClassId × FieldType)} {A : Nat → Prop} {s : State} {H : Heap} {As : List Value} (hP : va_P D vwCl ws H) (hK : va_K D vwCl tys s) (hD : va_D A ws) : PreS s H (va_Pc As (zx_Wr D ws tys H.size)) As := ⟨zx_Wr.blind, fun U hU hW => ⟨rfl, by rw [hU], by rw [hU]; exact hP, va_K.moved hW.alike hK, hD.weaken (fun _ _ _ _ => trivial)⟩⟩
theorem zx_preVw {D : va_G} {ws : va_W} {tys : List (ClassId × FieldType)} {A : Nat → Prop} {s : State} {H : Heap} {b : Nat} {fs : List Value} {As : List Value} (hP : va_P D vwCl ws H) (hK : va_K D vwCl tys s) (hD : va_D A ws) (he : ws[0]? = some (b, .inr (0, fs))) : PreV s H RX1 b (va_Pc (.ref b :: As) (zx_Wr D ws tys H.size)) As := ⟨zx_Wr.blind, va_recv hK hP (ci := 0) (q := (RX1, TX1, 1)) (q0 := 0) rfl he, fun U hU hW => ⟨rfl, by rw [hU], by rw [hU]; exact hP, va_K.moved hW.alike hK, hD.weaken (fun _ _ _ _ => trivial)⟩⟩
theorem zx_preX {b L : Nat} {xs : Nat → Int32} {s : State} {H : Heap} {As : List Value} (hX : va_X b L xs s H) : PreS s H (va_Pc As (fun U => va_X b L xs U U.heap)) As := ⟨fun a U g mk q => ⟨q.1, va_X.moved (u := U) (U := U.calling g mk a) (Vm.Alike.refl U.vm) q.2⟩, fun U hU hW => ⟨rfl, by
  show va_X b L xs U U.heap
  rw [hU]
  exact va_X.moved hW.alike hX⟩⟩
/-- cell(s, k) -/
def zx_ce (L : Nat) (xs : Nat → Int32) (i : Nat) : Int32 := if i < L then xs i else 0
theorem zx_ok_ones {g : Nat → Int32} : zx_ok (upd (upd (upd (upd g 0 (nI 1)) 1 (nI 1)) 2 (nI 1)) 3 (nI 1)) (fun _ => 1) := by
  refine ⟨fun j hj => ?_, fun j _ => ⟨Nat.le_refl 1, (show (1 : Nat) ≤ 8 by decide)⟩⟩
  rcases (show j = 0 ∨ j = 1 ∨ j = 2 ∨ j = 3 by omega) with e | e | e | e <;> subst e <;> rfl
set_option maxHeartbeats 4000000 in
/-- width(i, v) -/
theorem met_dset (l : Launch) (D : va_G) (h0 h1 sz : Nat) (d1 : ClassId) (f : Nat → Int32) (x y : Int32) : Met l yX1_width wsX1_width ({ frames := 0, cells := 0, slots := 0, locals := 0 }) (va_Pc [.ref h0, .int x, .int y] (zx_Wr D [(h0, .inr (0, [.ref h1])), (h1, .inl (d1, 4, .inl f))] [(d1, .int)] sz)) (va_Qv (fun _ : Unit => True) (fun _ t => zx_Wp D [(h0, .inr (0, [.ref h1])), (h1, .inl (d1, 4, .inl (upd f (zx_i3 x) (nI (1 + zx_i7 y)))))] [(d1, .int)] (va_A [(h0, .inr (0, [.ref h1])), (h1, .inl (d1, 4, .inl f))] sz) t) (va_A [(h0, .inr (0, [.ref h1])), (h1, .inl (d1, 4, .inl f))] sz)) 0 0 (va_A [(h0, .inr (0, [.ref h1])), (h1, .inl (d1, 4, .inl f))] sz) := by
  refine Met.ofW (cc := cX1_width) (maxL := 3) (ret := none) (by decide) rfl ?_
  intro p e s m args below meth c s₁ B hml hv
  obtain ⟨ha, hsz, hP, hK, hD0⟩ := hv
  have hx := B.exec
  have hb := B.bytes
  have hr := B.returns
  have hts := atoms_spec (ws := wsX1_width) B.pre
  have hts : ∀ w ∈ lw_all, w.before _ s = true := fun w h => hts w (List.mem_cons_of_mem _ h)
  have hown : s.vm.findClass RX1 = some m.cls := findClass_of_methodNamed B.named
  have hlocks := B.notSynchronized
  subst ha
  subst hsz
  have hD := hD0.self (sz := s.heap.size)
  generalize hAe : va_A [(h0, .inr (0, [.ref h1])), (h1, .inl (d1, 4, .inl f))] s.heap.size = A at hD ⊢
  have hA : ∀ q : Nat, s.heap.size ≤ q → A q := fun q h => by rw [← hAe]; exact Or.inr h
  have hS : va_S A s.heap s.heap [] := va_S.rf
  have hP : va_P D vwCl [(h0, .inr (0, [.ref h1])), (h1, .inl (d1, 4, .inl f))] s.heap := hP
  have hl := lv_entry [.ref h0, .int x, .int y] (n := 3) (Nat.le_of_ble_eq_true rfl)
  rw [lg_entry_eq]
  generalize (lg_sl [.ref h0, .int x, .int y] ++ List.replicate (3 - (lg_sl [.ref h0, .int x, .int y]).length) Slot.unset).toArray = ls at hl ⊢
  have hl : lv_has ls 3 [(0, .ref h0), (1, .int x), (2, .int y)] := hl
  have h3 := zx_i3_lt x
  refine lv_aload_n hx hb dX1_width_0 rfl (lv_at hl 0 rfl) ?_
  refine va_get (D := D) (ci := 0) (v := .ref h1) (C := RX1) (T := TX1) (N := 1) hx hb hts in_X1 hown hK hP 0 rfl rfl 0 (by decide) (hts _ q14) (fun _ h9 => h9) rfl dX1_width_1 ?_
  refine lv_iload_n hx hb dX1_width_4 rfl (lv_at hl 1 rfl) ?_
  refine lv_iconst (v := nI 3) hx hb dX1_width_5 (by decide) ?_
  refine lv_iand hx hb dX1_width_6 ?_
  refine zx_tp (y := nI (zx_i3 x)) (zx_i3_eq x) ?_
  refine lv_iconst (v := nI 1) hx hb dX1_width_7 (by decide) ?_
  refine lv_iload_n hx hb dX1_width_8 rfl (lv_at hl 2 rfl) ?_
  refine lv_bipush (v := nI 7) hx hb dX1_width_9 (by decide) ?_
  refine lv_iand hx hb dX1_width_11 ?_
  refine zx_tp (y := nI (zx_i7 y)) (zx_i7_eq y) ?_
  refine lv_iadd hx hb dX1_width_12 ?_
  refine zx_tp (y := nI (1 + (zx_i7 y))) (zx_add rfl) ?_
  refine va_iast hx hb hK hP hD hS 1 0 rfl rfl (vp_in_nI (by omega) (by decide)) dX1_width_13 (fun H locs hP hD hS => ?_)
  rw [nI_clamp (show zx_i3 x < 2 ^ 31 by omega)] at hP hD
  have hP : va_P D vwCl [(h0, .inr (0, [.ref h1])), (h1, .inl (d1, 4, .inl (upd f (zx_i3 x) (nI (1 + (zx_i7 y))))))] H := hP
  have hD : va_D A [(h0, .inr (0, [.ref h1])), (h1, .inl (d1, 4, .inl (upd f (zx_i3 x) (nI (1 + (zx_i7 y))))))] := hD
  exact W.vret hx hb hr (fun u9 hu9 hw9 => ⟨⟨(), rfl, trivial, by rw [hu9]; exact hP, va_K.moved hw9.alike hK, hD⟩, hS.F hu9⟩) hS.2.2 dX1_width_14
set_option maxHeartbeats 4000000 in
/-- widths(a, b, c, d) -/
theorem met_dsets (l : Launch) (D : va_G) (h0 h1 sz : Nat) (d1 : ClassId) (f : Nat → Int32) (x0 x1 x2 x3 : Int32) : Met l yX1_widths wsX1_widths ({ frames := 0, cells := 0, slots := 0, locals := 0 }) (va_Pc [.ref h0, .int x0, .int x1, .int x2, .int x3] (zx_Wr D [(h0, .inr (0, [.ref h1])), (h1, .inl (d1, 4, .inl f))] [(d1, .int)] sz)) (va_Qv (fun _ : Unit => True) (fun _ t => zx_Wp D [(h0, .inr (0, [.ref h1])), (h1, .inl (d1, 4, .inl (upd (upd (upd (upd f 0 (nI (1 + zx_i7 x0))) 1 (nI (1 + zx_i7 x1))) 2 (nI (1 + zx_i7 x2))) 3 (nI (1 + zx_i7 x3)))))] [(d1, .int)] (va_A [(h0, .inr (0, [.ref h1])), (h1, .inl (d1, 4, .inl f))] sz) t) (va_A [(h0, .inr (0, [.ref h1])), (h1, .inl (d1, 4, .inl f))] sz)) 0 0 (va_A [(h0, .inr (0, [.ref h1])), (h1, .inl (d1, 4, .inl f))] sz) := by
  refine Met.ofW (cc := cX1_widths) (maxL := 5) (ret := none) (by decide) rfl ?_
  intro p e s m args below meth c s₁ B hml hv
  obtain ⟨ha, hsz, hP, hK, hD0⟩ := hv
  have hx := B.exec
  have hb := B.bytes
  have hr := B.returns
  have hts := atoms_spec (ws := wsX1_widths) B.pre
  have hts : ∀ w ∈ lw_all, w.before _ s = true := fun w h => hts w (List.mem_cons_of_mem _ h)
  have hown : s.vm.findClass RX1 = some m.cls := findClass_of_methodNamed B.named
  have hlocks := B.notSynchronized
  subst ha
  subst hsz
  have hD := hD0.self (sz := s.heap.size)
  generalize hAe : va_A [(h0, .inr (0, [.ref h1])), (h1, .inl (d1, 4, .inl f))] s.heap.size = A at hD ⊢
  have hA : ∀ q : Nat, s.heap.size ≤ q → A q := fun q h => by rw [← hAe]; exact Or.inr h
  have hS : va_S A s.heap s.heap [] := va_S.rf
  have hP : va_P D vwCl [(h0, .inr (0, [.ref h1])), (h1, .inl (d1, 4, .inl f))] s.heap := hP
  have hl := lv_entry [.ref h0, .int x0, .int x1, .int x2, .int x3] (n := 5) (Nat.le_of_ble_eq_true rfl)
  rw [lg_entry_eq]
  generalize (lg_sl [.ref h0, .int x0, .int x1, .int x2, .int x3] ++ List.replicate (5 - (lg_sl [.ref h0, .int x0, .int x1, .int x2, .int x3]).length) Slot.unset).toArray = ls at hl ⊢
  have hl : lv_has ls 5 [(0, .ref h0), (1, .int x0), (2, .int x1), (3, .int x2), (4, .int x3)] := hl
  refine lv_aload_n hx hb dX1_widths_0 rfl (lv_at hl 0 rfl) ?_
  refine va_get (D := D) (ci := 0) (v := .ref h1) (C := RX1) (T := TX1) (N := 1) hx hb hts in_X1 hown hK hP 0 rfl rfl 0 (by decide) (hts _ q14) (fun _ h9 => h9) rfl dX1_widths_1 ?_
  refine lv_iconst (v := nI 0) hx hb dX1_widths_4 (by decide) ?_
  refine lv_iconst (v := nI 1) hx hb dX1_widths_5 (by decide) ?_
  refine lv_iload_n hx hb dX1_widths_6 rfl (lv_at hl 1 rfl) ?_
  refine lv_bipush (v := nI 7) hx hb dX1_widths_7 (by decide) ?_
  refine lv_iand hx hb dX1_widths_9 ?_
  refine zx_tp (y := nI (zx_i7 x0)) (zx_i7_eq x0) ?_
  refine lv_iadd hx hb dX1_widths_10 ?_
  refine zx_tp (y := nI (1 + (zx_i7 x0))) (zx_add rfl) ?_
  refine va_iast hx hb hK hP hD hS 1 0 rfl rfl (vp_in_nI (by omega) (by decide)) dX1_widths_11 (fun H locs hP hD hS => ?_)
  rw [nI_clamp (show 0 < 2 ^ 31 by omega)] at hP hD
  have hP : va_P D vwCl [(h0, .inr (0, [.ref h1])), (h1, .inl (d1, 4, .inl (upd f 0 (nI (1 + (zx_i7 x0))))))] H := hP
  have hD : va_D A [(h0, .inr (0, [.ref h1])), (h1, .inl (d1, 4, .inl (upd f 0 (nI (1 + (zx_i7 x0))))))] := hD
  refine lv_aload_n hx hb dX1_widths_12 rfl (lv_at hl 0 rfl) ?_
  refine va_get (D := D) (ci := 0) (v := .ref h1) (C := RX1) (T := TX1) (N := 1) hx hb hts in_X1 hown hK hP 0 rfl rfl 0 (by decide) (hts _ q14) (fun _ h9 => h9) rfl dX1_widths_13 ?_
  refine lv_iconst (v := nI 1) hx hb dX1_widths_16 (by decide) ?_
  refine lv_iconst (v := nI 1) hx hb dX1_widths_17 (by decide) ?_
  refine lv_iload_n hx hb dX1_widths_18 rfl (lv_at hl 2 rfl) ?_
  refine lv_bipush (v := nI 7) hx hb dX1_widths_19 (by decide) ?_
  refine lv_iand hx hb dX1_widths_21 ?_
  refine zx_tp (y := nI (zx_i7 x1)) (zx_i7_eq x1) ?_
  refine lv_iadd hx hb dX1_widths_22 ?_
  refine zx_tp (y := nI (1 + (zx_i7 x1))) (zx_add rfl) ?_
  refine va_iast hx hb hK hP hD hS 1 0 rfl rfl (vp_in_nI (by omega) (by decide)) dX1_widths_23 (fun H locs hP hD hS => ?_)
  rw [nI_clamp (show 1 < 2 ^ 31 by omega)] at hP hD
  have hP : va_P D vwCl [(h0, .inr (0, [.ref h1])), (h1, .inl (d1, 4, .inl (upd (upd f 0 (nI (1 + (zx_i7 x0)))) 1 (nI (1 + (zx_i7 x1))))))] H := hP
  have hD : va_D A [(h0, .inr (0, [.ref h1])), (h1, .inl (d1, 4, .inl (upd (upd f 0 (nI (1 + (zx_i7 x0)))) 1 (nI (1 + (zx_i7 x1))))))] := hD
  refine lv_aload_n hx hb dX1_widths_24 rfl (lv_at hl 0 rfl) ?_
  refine va_get (D := D) (ci := 0) (v := .ref h1) (C := RX1) (T := TX1) (N := 1) hx hb hts in_X1 hown hK hP 0 rfl rfl 0 (by decide) (hts _ q14) (fun _ h9 => h9) rfl dX1_widths_25 ?_
  refine lv_iconst (v := nI 2) hx hb dX1_widths_28 (by decide) ?_
  refine lv_iconst (v := nI 1) hx hb dX1_widths_29 (by decide) ?_
  refine lv_iload_n hx hb dX1_widths_30 rfl (lv_at hl 3 rfl) ?_
  refine lv_bipush (v := nI 7) hx hb dX1_widths_31 (by decide) ?_
  refine lv_iand hx hb dX1_widths_33 ?_
  refine zx_tp (y := nI (zx_i7 x2)) (zx_i7_eq x2) ?_
  refine lv_iadd hx hb dX1_widths_34 ?_
  refine zx_tp (y := nI (1 + (zx_i7 x2))) (zx_add rfl) ?_
  refine va_iast hx hb hK hP hD hS 1 0 rfl rfl (vp_in_nI (by omega) (by decide)) dX1_widths_35 (fun H locs hP hD hS => ?_)
  rw [nI_clamp (show 2 < 2 ^ 31 by omega)] at hP hD
  have hP : va_P D vwCl [(h0, .inr (0, [.ref h1])), (h1, .inl (d1, 4, .inl (upd (upd (upd f 0 (nI (1 + (zx_i7 x0)))) 1 (nI (1 + (zx_i7 x1)))) 2 (nI (1 + (zx_i7 x2))))))] H := hP
  have hD : va_D A [(h0, .inr (0, [.ref h1])), (h1, .inl (d1, 4, .inl (upd (upd (upd f 0 (nI (1 + (zx_i7 x0)))) 1 (nI (1 + (zx_i7 x1)))) 2 (nI (1 + (zx_i7 x2))))))] := hD
  refine lv_aload_n hx hb dX1_widths_36 rfl (lv_at hl 0 rfl) ?_
  refine va_get (D := D) (ci := 0) (v := .ref h1) (C := RX1) (T := TX1) (N := 1) hx hb hts in_X1 hown hK hP 0 rfl rfl 0 (by decide) (hts _ q14) (fun _ h9 => h9) rfl dX1_widths_37 ?_
  refine lv_iconst (v := nI 3) hx hb dX1_widths_40 (by decide) ?_
  refine lv_iconst (v := nI 1) hx hb dX1_widths_41 (by decide) ?_
  refine lv_iload hx hb dX1_widths_42 (lv_at hl 4 rfl) ?_
  refine lv_bipush (v := nI 7) hx hb dX1_widths_44 (by decide) ?_
  refine lv_iand hx hb dX1_widths_46 ?_
  refine zx_tp (y := nI (zx_i7 x3)) (zx_i7_eq x3) ?_
  refine lv_iadd hx hb dX1_widths_47 ?_
  refine zx_tp (y := nI (1 + (zx_i7 x3))) (zx_add rfl) ?_
  refine va_iast hx hb hK hP hD hS 1 0 rfl rfl (vp_in_nI (by omega) (by decide)) dX1_widths_48 (fun H locs hP hD hS => ?_)
  rw [nI_clamp (show 3 < 2 ^ 31 by omega)] at hP hD
  have hP : va_P D vwCl [(h0, .inr (0, [.ref h1])), (h1, .inl (d1, 4, .inl (upd (upd (upd (upd f 0 (nI (1 + (zx_i7 x0)))) 1 (nI (1 + (zx_i7 x1)))) 2 (nI (1 + (zx_i7 x2)))) 3 (nI (1 + (zx_i7 x3))))))] H := hP
  have hD : va_D A [(h0, .inr (0, [.ref h1])), (h1, .inl (d1, 4, .inl (upd (upd (upd (upd f 0 (nI (1 + (zx_i7 x0)))) 1 (nI (1 + (zx_i7 x1)))) 2 (nI (1 + (zx_i7 x2)))) 3 (nI (1 + (zx_i7 x3))))))] := hD
  exact W.vret hx hb hr (fun u9 hu9 hw9 => ⟨⟨(), rfl, trivial, by rw [hu9]; exact hP, va_K.moved hw9.alike hK, hD⟩, hS.F hu9⟩) hS.2.2 dX1_widths_49
set_option maxHeartbeats 4000000 in
/-- the constructor -/
theorem met_dinit (l : Launch) (D : va_G) (h0 sz : Nat) : Met l yX1_init wsX1_init ({ frames := 1, cells := 1, slots := 4, locals := 12 }) (va_Pc [.ref h0] (zx_Wr D [(h0, .inr (0, [.null]))] [] sz)) (va_Qv (fun _ : Unit => True) (fun _ t => ∃ (q : Nat) (d1 : ClassId) (f : Nat → Int32), zx_Wp D [(h0, .inr (0, [.ref q])), (q, .inl (d1, 4, .inl f))] [(d1, .int)] (va_A [(h0, .inr (0, [.null]))] sz) t ∧ zx_ok f (fun _ => 1)) (va_A [(h0, .inr (0, [.null]))] sz)) 1 4 (va_A [(h0, .inr (0, [.null]))] sz) := by
  refine Met.ofW (cc := cX1_init) (maxL := 1) (ret := none) (by decide) rfl ?_
  intro p e s m args below meth c s₁ B hml hv
  obtain ⟨ha, hsz, hP, hK, hD0⟩ := hv
  have hx := B.exec
  have hb := B.bytes
  have hr := B.returns
  have hts := atoms_spec (ws := wsX1_init) B.pre
  have hts : ∀ w ∈ lw_all, w.before _ s = true := fun w h => hts w (List.mem_cons_of_mem _ h)
  have hown : s.vm.findClass RX1 = some m.cls := findClass_of_methodNamed B.named
  have hlocks := B.notSynchronized
  have hin : meth.name = "<init>" := (name_of_methodNamed B.named B.method).1
  subst ha
  subst hsz
  have hD := hD0.self (sz := s.heap.size)
  generalize hAe : va_A [(h0, .inr (0, [.null]))] s.heap.size = A at hD ⊢
  have hA : ∀ q : Nat, s.heap.size ≤ q → A q := fun q h => by rw [← hAe]; exact Or.inr h
  have hS : va_S A s.heap s.heap [] := va_S.rf
  have hP : va_P D vwCl [(h0, .inr (0, [.null]))] s.heap := hP
  have hl := lv_entry [.ref h0] (n := 1) (Nat.le_of_ble_eq_true rfl)
  rw [lg_entry_eq]
  generalize (lg_sl [.ref h0] ++ List.replicate (1 - (lg_sl [.ref h0]).length) Slot.unset).toArray = ls at hl ⊢
  have hl : lv_has ls 1 [(0, .ref h0)] := hl
  refine lv_aload_n hx hb dX1_init_0 rfl (lv_at hl 0 rfl) ?_
  refine W.objInit hx hb hown (hts _ q11) (hts _ q12) (hts _ q13) rfl (by rw [hml]; exact hl.1) rfl dX1_init_1 (Nat.le_of_ble_eq_true rfl) (Nat.le_of_ble_eq_true rfl) ?_
  refine W.eq (g2 := F0 m 4 ls []) rfl ?_
  refine lv_aload_n hx hb dX1_init_4 rfl (lv_at hl 0 rfl) ?_
  refine lv_iconst (v := nI 4) hx hb dX1_init_5 (by decide) ?_
  refine va_newa (atype := .int) (ty := .int) (a0 := (4, .inl (fun _ => 0))) (N' := 4) hx hb (hts _ q18) rfl hK hP hD hS hA (fun _ => rfl) (by decide) (by decide) (by decide) (Nat.le_of_ble_eq_true rfl) (Nat.le_of_ble_eq_true rfl) dX1_init_6 (fun q d1 H hK hP hD hS => ?_)
  have hP : va_P D vwCl [(h0, .inr (0, [.null])), (q, .inl (d1, 4, .inl (fun _ => 0)))] H := hP
  have hD : va_D A [(h0, .inr (0, [.null])), (q, .inl (d1, 4, .inl (fun _ => 0)))] := hD
  have hK : va_K D vwCl [(d1, .int)] s := hK
  refine W.widen (k := 1) (n := 4) (by omega) (by omega) ?_
  refine lv_dup hx hb dX1_init_8 rfl ?_
  refine lv_iconst (v := nI 0) hx hb dX1_init_9 (by decide) ?_
  refine lv_iconst (v := nI 1) hx hb dX1_init_10 (by decide) ?_
  refine va_iast hx hb hK hP hD hS 1 0 rfl rfl (vp_in_nI (by omega) (by decide)) dX1_init_11 (fun H locs hP hD hS => ?_)
  rw [nI_clamp (show 0 < 2 ^ 31 by omega)] at hP hD
  have hP : va_P D vwCl [(h0, .inr (0, [.null])), (q, .inl (d1, 4, .inl (upd (fun _ => 0) 0 (nI 1))))] H := hP
  have hD : va_D A [(h0, .inr (0, [.null])), (q, .inl (d1, 4, .inl (upd (fun _ => 0) 0 (nI 1))))] := hD
  refine lv_dup hx hb dX1_init_12 rfl ?_
  refine lv_iconst (v := nI 1) hx hb dX1_init_13 (by decide) ?_
  refine lv_iconst (v := nI 1) hx hb dX1_init_14 (by decide) ?_
  refine va_iast hx hb hK hP hD hS 1 0 rfl rfl (vp_in_nI (by omega) (by decide)) dX1_init_15 (fun H locs hP hD hS => ?_)
  rw [nI_clamp (show 1 < 2 ^ 31 by omega)] at hP hD
  have hP : va_P D vwCl [(h0, .inr (0, [.null])), (q, .inl (d1, 4, .inl (upd (upd (fun _ => 0) 0 (nI 1)) 1 (nI 1))))] H := hP
  have hD : va_D A [(h0, .inr (0, [.null])), (q, .inl (d1, 4, .inl (upd (upd (fun _ => 0) 0 (nI 1)) 1 (nI 1))))] := hD
  refine lv_dup hx hb dX1_init_16 rfl ?_
  refine lv_iconst (v := nI 2) hx hb dX1_init_17 (by decide) ?_
  refine lv_iconst (v := nI 1) hx hb dX1_init_18 (by decide) ?_
  refine va_iast hx hb hK hP hD hS 1 0 rfl rfl (vp_in_nI (by omega) (by decide)) dX1_init_19 (fun H locs hP hD hS => ?_)
  rw [nI_clamp (show 2 < 2 ^ 31 by omega)] at hP hD
  have hP : va_P D vwCl [(h0, .inr (0, [.null])), (q, .inl (d1, 4, .inl (upd (upd (upd (fun _ => 0) 0 (nI 1)) 1 (nI 1)) 2 (nI 1))))] H := hP
  have hD : va_D A [(h0, .inr (0, [.null])), (q, .inl (d1, 4, .inl (upd (upd (upd (fun _ => 0) 0 (nI 1)) 1 (nI 1)) 2 (nI 1))))] := hD
  refine lv_dup hx hb dX1_init_20 rfl ?_
  refine lv_iconst (v := nI 3) hx hb dX1_init_21 (by decide) ?_
  refine lv_iconst (v := nI 1) hx hb dX1_init_22 (by decide) ?_
  refine va_iast hx hb hK hP hD hS 1 0 rfl rfl (vp_in_nI (by omega) (by decide)) dX1_init_23 (fun H locs hP hD hS => ?_)
  rw [nI_clamp (show 3 < 2 ^ 31 by omega)] at hP hD
  have hP : va_P D vwCl [(h0, .inr (0, [.null])), (q, .inl (d1, 4, .inl (upd (upd (upd (upd (fun _ => 0) 0 (nI 1)) 1 (nI 1)) 2 (nI 1)) 3 (nI 1))))] H := hP
  have hD : va_D A [(h0, .inr (0, [.null])), (q, .inl (d1, 4, .inl (upd (upd (upd (upd (fun _ => 0) 0 (nI 1)) 1 (nI 1)) 2 (nI 1)) 3 (nI 1))))] := hD
  refine va_putF (D := D) (ci := 0) (v := .ref q) (ty := .array .int) (C := RX1) (T := TX1) (N := 1) hx hb hts in_X1 tyX1 tyX1_ok nmX1 hown hK hP hD hS 0 rfl rfl 0 (by decide) (hts _ q14) (fun _ h9 => h9) rfl hin rfl (by decide +kernel) rfl rfl (Nat.le_of_ble_eq_true rfl) dX1_init_24 (fun H locs hP hD hS => ?_)
  have hP : va_P D vwCl [(h0, .inr (0, [.ref q])), (q, .inl (d1, 4, .inl (upd (upd (upd (upd (fun _ => 0) 0 (nI 1)) 1 (nI 1)) 2 (nI 1)) 3 (nI 1))))] H := hP
  have hD : va_D A [(h0, .inr (0, [.ref q])), (q, .inl (d1, 4, .inl (upd (upd (upd (upd (fun _ => 0) 0 (nI 1)) 1 (nI 1)) 2 (nI 1)) 3 (nI 1))))] := hD
  exact W.vret hx hb hr (fun u9 hu9 hw9 => ⟨⟨(), rfl, trivial, q, d1, _, ⟨by rw [hu9]; exact hP, va_K.moved hw9.alike hK, hD⟩, zx_ok_ones⟩, hS.F hu9⟩) hS.2.2 dX1_init_27
set_option maxHeartbeats 4000000 in
/-- cell(s, k), of the script -/
theorem met_cell (l : Launch) (b L : Nat) (xs : Nat → Int32) (i : Nat) (hL : L ≤ 96) (hi : i < 1000) : Met l yX0_cell wsX0_cell ({ frames := 0, cells := 0, slots := 0, locals := 0 }) (va_Pc [.ref b, .int (nI i)] (fun U => va_X b L xs U U.heap)) (QcRead (zx_ce L xs i)) 0 0 (fun _ => False) := by
  refine Met.ofW (cc := cX0_cell) (maxL := 2) (ret := (some .int)) (by decide) rfl ?_
  intro p e s m args below meth c s₁ B hml hv
  obtain ⟨ha, hX⟩ := hv
  have hx := B.exec
  have hb := B.bytes
  have hr := B.returns
  have hlocks := B.notSynchronized
  subst ha
  have hbl : b < s.heap.size := by
    obtain ⟨scr, h1, -⟩ := hX
    exact (Array.getElem?_eq_some_iff.mp h1).1
  have hS : va_S (fun _ => False) s.heap s.heap [] := va_S.rf
  have hl := lv_entry [.ref b, .int (nI i)] (n := 2) (Nat.le_of_ble_eq_true rfl)
  rw [lg_entry_eq]
  generalize (lg_sl [.ref b, .int (nI i)] ++ List.replicate (2 - (lg_sl [.ref b, .int (nI i)]).length) Slot.unset).toArray = ls at hl ⊢
  have hl : lv_has ls 2 [(0, .ref b), (1, .int (nI i))] := hl
  refine lv_iload_n hx hb dX0_cell_0 rfl (lv_at hl 1 rfl) ?_
  refine lv_aload_n hx hb dX0_cell_1 rfl (lv_at hl 0 rfl) ?_
  refine va_slen (A := fun _ => False) hx hb hX hbl (fun h => h) hS dX0_cell_2 ?_
  refine zx_tp (y := nI L) rfl ?_
  refine lv_icmp_ge (tgt := 12) hx hb dX0_cell_3 (by decide) (fun c_3 => ?_) (fun c_3 => ?_)
  ·
    have c_3 : L ≤ i := (nI_leI (a := L) (b := i) (by omega) (by omega)).mp c_3
    refine lv_iconst (v := nI 0) hx hb dX0_cell_12 (by decide) ?_
    exact W.iret (v := nI 0) hx hb hr (fun u9 hu9 hw9 => ⟨congrArg (fun z => Outcome.returned (some (Value.int z))) (by unfold zx_ce; rw [if_neg (by omega)]; rfl), hu9⟩) (fun q h9 => by cases h9) dX0_cell_13
  ·
    have c_3 : ¬ (L ≤ i) := fun h9 => c_3 ((nI_leI (a := L) (b := i) (by omega) (by omega)).mpr h9)
    refine lv_aload_n hx hb dX0_cell_6 rfl (lv_at hl 0 rfl) ?_
    refine lv_iload_n hx hb dX0_cell_7 rfl (lv_at hl 1 rfl) ?_
    refine va_sld (A := fun _ => False) hx hb hX hbl (fun h => h) hS (vp_in_nI (by omega) (by omega)) dX0_cell_8 ?_
    refine zx_tp (y := xs i) (by rw [nI_clamp (by omega)]) ?_
    refine lv_goto (tgt := 13) hx hb dX0_cell_9 (by decide) ?_
    exact W.iret (v := xs i) hx hb hr (fun u9 hu9 hw9 => ⟨congrArg (fun z => Outcome.returned (some (Value.int z))) (by unfold zx_ce; rw [if_pos (by omega)]), hu9⟩) (fun q h9 => by cases h9) dX0_cell_13
end
section
set_option maxRecDepth 100000
/-! the law's values and holds -/
theorem zx_hi : ∀ t, t < 12 → ¬ (nI 8 ≤ nI t - 4) := by decide +kernel
theorem zx_h1 (t : Nat) : nI t - 4 + 1 = nI (t + 1) - 4 := by
  rw [← nI_1]
  grind
set_option maxHeartbeats 4000000 in
/-- values(d, w, n): true -/
theorem met_values (l : Launch) (D : va_G) (h0 h1 h2 : Nat) (d1 d2 : ClassId) (f u : Nat → Int32) (w : Nat → Nat) (hf : zx_ok f w) (hu : zx_ok u w) (x : Int32) : Met l yX0_values wsX0_values ({ frames := 3, cells := 0, slots := 0, locals := 80 }) (va_Pc [.ref h0, .ref h2, .int x] (zx_Rd D [(h0, .inr (0, [.ref h1])), (h1, .inl (d1, 4, .inl f)), (h2, .inl (d2, 4, .inl u))] [(d1, .int), (d2, .int)])) (QcRead 1) 0 0 (fun _ => False) := by
  refine Met.ofW (cc := cX0_values) (maxL := 9) (ret := (some .boolean)) (by decide) rfl ?_
  intro p e s m args below meth c s₁ B hml hv
  obtain ⟨ha, hP, hK⟩ := hv
  have hx := B.exec
  have hb := B.bytes
  have hr := B.returns
  have hts := atoms_spec (ws := wsX0_values) B.pre
  have hts : ∀ w ∈ lw_all, w.before _ s = true := fun w h => hts w (List.mem_cons_of_mem _ h)
  have hown : s.vm.findClass RX0 = some m.cls := findClass_of_methodNamed B.named
  have hlocks := B.notSynchronized
  subst ha
  have hl := lv_entry [.ref h0, .ref h2, .int x] (n := 9) (Nat.le_of_ble_eq_true rfl)
  rw [lg_entry_eq]
  generalize (lg_sl [.ref h0, .ref h2, .int x] ++ List.replicate (9 - (lg_sl [.ref h0, .ref h2, .int x]).length) Slot.unset).toArray = ls at hl ⊢
  have hl : lv_has ls 9 [(0, .ref h0), (1, .ref h2), (2, .int x)] := hl
  have hm1 := zx_mx_le w hf.2
  have hmo := zx_mo_le w hf.2 x
  have hsm := zx_sm_le w hf.2
  have hnr := zx_nr_lt w
  have w1 : ∀ j, j < 4 → 1 ≤ w j := fun j h => (hf.2 j h).1
  have w8 : ∀ j, j < 4 → w j ≤ zx_mo w x := fun j h => Nat.le_trans (hm1.2.2 j h) hmo.1
  have b0 := hf.2 0 (by decide)
  have b1 := hf.2 1 (by decide)
  have b2 := hf.2 2 (by decide)
  have b3 := hf.2 3 (by decide)
  have K100 : ∀ (ls : Array Slot), lv_has ls 9 [(0, .ref h0), (1, .ref h2), (2, .int x), (7, .int (zx_va w x))] → W p l e (headSpec wsX0_values ({ frames := 3, cells := 0, slots := 0, locals := 80 })).room s m ([.ref h0, .ref h2, .int x] : List Value).toArray below meth c s.heap [] 0 0 (MQ below (QcRead 1) ([.ref h0, .ref h2, .int x] : List Value).toArray s 0 0 (fun _ => False)) (F0 m 100 ls [.int (zx_wn w x)]) := by
    intro ls hl
    refine lv_istore (lv' := [(8, .int (zx_wn w x)), (0, .ref h0), (1, .ref h2), (2, .int x), (7, .int (zx_va w x))]) hx hb dX0_values_100 hl (by decide) rfl (fun ls hl => ?_)
    refine lv_aload_n hx hb dX0_values_102 rfl (lv_at hl 1 rfl) ?_
    refine lv_iload_n hx hb dX0_values_103 rfl (lv_at hl 3 rfl) ?_
    refine zx_callR (W.runV (As := [.int x]) (rest := []) ⟨hx, hb, hml, hown, hts⟩ (met_dvalue l D h0 h1 d1 f w hf x) (cwV 1 hts (lw_V q45 q46 q47 q4 q48) rfl rfl rfl (by decide +kernel) ⟨Nat.le_of_ble_eq_true rfl, Nat.le_of_ble_eq_true rfl⟩) (zx_preV (hP.sub [0, 1] rfl) (hK.sub [0] rfl) rfl) rfl rfl hl.1 rfl (lv_room (Nat.le_of_ble_eq_true rfl)) dX0_values_104 ⟨Nat.zero_le _, Nat.zero_le _⟩) ?_
    refine lv_iload hx hb dX0_values_107 (lv_at hl 4 rfl) ?_
    refine lv_icmp_ne (tgt := 146) hx hb dX0_values_109 (by decide) (fun c_109 => absurd (rfl) c_109) (fun c_109 => ?_)
    refine lv_aload_n hx hb dX0_values_112 rfl (lv_at hl 1 rfl) ?_
    refine lv_iload_n hx hb dX0_values_113 rfl (lv_at hl 3 rfl) ?_
    refine zx_callR (W.runV (As := [.int x]) (rest := []) ⟨hx, hb, hml, hown, hts⟩ (met_dwithNarrow l D h0 h1 d1 f w hf x) (cwV 1 hts (lw_V q64 q65 q66 q4 q67) rfl rfl rfl (by decide +kernel) ⟨Nat.le_of_ble_eq_true rfl, Nat.le_of_ble_eq_true rfl⟩) (zx_preV (hP.sub [0, 1] rfl) (hK.sub [0] rfl) rfl) rfl rfl hl.1 rfl (lv_room (Nat.le_of_ble_eq_true rfl)) dX0_values_114 ⟨Nat.zero_le _, Nat.zero_le _⟩) ?_
    refine lv_iload hx hb dX0_values_117 (lv_at hl 0 rfl) ?_
    refine lv_icmp_ne (tgt := 146) hx hb dX0_values_119 (by decide) (fun c_119 => absurd (rfl) c_119) (fun c_119 => ?_)
    refine lv_aload_n hx hb dX0_values_122 rfl (lv_at hl 1 rfl) ?_
    refine lv_iload_n hx hb dX0_values_123 rfl (lv_at hl 3 rfl) ?_
    refine zx_callR (W.runV (As := [.int x]) (rest := []) ⟨hx, hb, hml, hown, hts⟩ (met_dvalue l D h0 h1 d1 f w hf x) (cwV 1 hts (lw_V q45 q46 q47 q4 q48) rfl rfl rfl (by decide +kernel) ⟨Nat.le_of_ble_eq_true rfl, Nat.le_of_ble_eq_true rfl⟩) (zx_preV (hP.sub [0, 1] rfl) (hK.sub [0] rfl) rfl) rfl rfl hl.1 rfl (lv_room (Nat.le_of_ble_eq_true rfl)) dX0_values_124 ⟨Nat.zero_le _, Nat.zero_le _⟩) ?_
    refine lv_iload hx hb dX0_values_127 (lv_at hl 4 rfl) ?_
    refine lv_icmp_ne (tgt := 146) hx hb dX0_values_129 (by decide) (fun c_129 => absurd (rfl) c_129) (fun c_129 => ?_)
    refine lv_aload_n hx hb dX0_values_132 rfl (lv_at hl 1 rfl) ?_
    refine lv_iload_n hx hb dX0_values_133 rfl (lv_at hl 3 rfl) ?_
    refine zx_callR (W.runV (As := [.int x]) (rest := []) ⟨hx, hb, hml, hown, hts⟩ (met_dwithNarrow l D h0 h1 d1 f w hf x) (cwV 1 hts (lw_V q64 q65 q66 q4 q67) rfl rfl rfl (by decide +kernel) ⟨Nat.le_of_ble_eq_true rfl, Nat.le_of_ble_eq_true rfl⟩) (zx_preV (hP.sub [0, 1] rfl) (hK.sub [0] rfl) rfl) rfl rfl hl.1 rfl (lv_room (Nat.le_of_ble_eq_true rfl)) dX0_values_134 ⟨Nat.zero_le _, Nat.zero_le _⟩) ?_
    refine lv_iload hx hb dX0_values_137 (lv_at hl 0 rfl) ?_
    refine lv_icmp_ne (tgt := 146) hx hb dX0_values_139 (by decide) (fun c_139 => absurd (rfl) c_139) (fun c_139 => ?_)
    refine lv_iconst (v := nI 1) hx hb dX0_values_142 (by decide) ?_
    refine lv_goto (tgt := 147) hx hb dX0_values_143 (by decide) ?_
    exact W.zret (v := nI 1) hx hb hr (rfl) (fun u9 hu9 hw9 => ⟨congrArg (fun z => Outcome.returned (some (Value.int z))) (rfl), hu9⟩) (fun q h9 => by cases h9) dX0_values_147
  have K83 : ∀ (y : Nat), y = (if zx_nr w ≠ 0 ∧ zx_sm w < zx_mo w x + 7 ∧ zx_sm w < 2 * zx_mo w x + 4 then 1 else 0) → ∀ (ls : Array Slot), lv_has ls 9 [(0, .ref h0), (1, .ref h2), (2, .int x), (3, .int (nI (zx_mo w x))), (6, .int (nI y))] → W p l e (headSpec wsX0_values ({ frames := 3, cells := 0, slots := 0, locals := 80 })).room s m ([.ref h0, .ref h2, .int x] : List Value).toArray below meth c s.heap [] 0 0 (MQ below (QcRead 1) ([.ref h0, .ref h2, .int x] : List Value).toArray s 0 0 (fun _ => False)) (F0 m 83 ls [.int (zx_va w x)]) := by
    intro y hy ls hl
    have hy2 : y < 2 := by rw [hy]; by_cases h : zx_nr w ≠ 0 ∧ zx_sm w < zx_mo w x + 7 ∧ zx_sm w < 2 * zx_mo w x + 4 <;> simp [h]
    refine lv_istore (lv' := [(7, .int (zx_va w x)), (0, .ref h0), (1, .ref h2), (2, .int x), (3, .int (nI (zx_mo w x))), (6, .int (nI y))]) hx hb dX0_values_83 hl (by decide) rfl (fun ls hl => ?_)
    refine lv_iload hx hb dX0_values_85 (lv_at hl 5 rfl) ?_
    refine lv_if_eq (tgt := 99) hx hb dX0_values_87 (by decide) (fun c_87 => ?_) (fun c_87 => ?_)
    ·
      have c_87 : y = 0 := (nI_eq (a := y) (b := 0) (by omega) (by omega)).mp c_87
      have hc : ¬ (zx_nr w ≠ 0 ∧ zx_sm w < zx_mo w x + 7 ∧ zx_sm w < 2 * zx_mo w x + 4) := fun h => by
        rw [if_pos h] at hy
        omega
      refine lv_iconst (v := (-1)) hx hb dX0_values_99 (by decide) ?_
      refine zx_tp (y := zx_wn w x) (by unfold zx_wn; rw [if_neg hc]) ?_
      exact K100 ls (lv_sub hl [1, 2, 3, 0] rfl)
    ·
      have c_87 : ¬ (y = 0) := fun h9 => c_87 ((nI_eq (a := y) (b := 0) (by omega) (by omega)).mpr h9)
      have hc : zx_nr w ≠ 0 ∧ zx_sm w < zx_mo w x + 7 ∧ zx_sm w < 2 * zx_mo w x + 4 := Decidable.not_not.mp (fun h => by
        rw [if_neg h] at hy
        omega)
      refine lv_aload_n hx hb dX0_values_90 rfl (lv_at hl 2 rfl) ?_
      refine lv_iload_n hx hb dX0_values_91 rfl (lv_at hl 4 rfl) ?_
      refine lv_iconst (v := nI 1) hx hb dX0_values_92 (by decide) ?_
      refine zx_callR (W.runS (As := [.ref h2, .int (nI (zx_mo w x)), .int (nI 1)]) (rest := []) ⟨hx, hb, hml, hown, hts⟩ (met_ahead l D h2 d2 u w hu (zx_mo w x) 1 hmo.2 (by decide)) (va_cwS 3 hts (lw_S q42 q43 q3 q44) rfl rfl rfl (by decide +kernel) ⟨Nat.le_of_ble_eq_true rfl, Nat.le_of_ble_eq_true rfl⟩) (zx_preS (hP.sub [2] rfl) (hK.sub [1] rfl)) rfl rfl hl.1 rfl (lv_room (Nat.le_of_ble_eq_true rfl)) dX0_values_93 ⟨Nat.zero_le _, Nat.zero_le _⟩) ?_
      refine lv_goto (tgt := 100) hx hb dX0_values_96 (by decide) ?_
      refine zx_tp (y := zx_wn w x) (by unfold zx_wn; rw [if_pos hc]; exact (zx_law w (zx_mo w x) 1 w1 w8 hmo.2 hc.2.2 (fun _ => hc.2.1)).symm) ?_
      exact K100 ls (lv_sub hl [1, 2, 3, 0] rfl)
  have K66 : ∀ (o y : Nat), o = (if zx_sm w < 2 * zx_mo w x + 4 then 1 else 0) → y = (if zx_nr w ≠ 0 ∧ zx_sm w < zx_mo w x + 7 ∧ zx_sm w < 2 * zx_mo w x + 4 then 1 else 0) → ∀ (ls : Array Slot), lv_has ls 9 [(0, .ref h0), (1, .ref h2), (2, .int x), (3, .int (nI (zx_mo w x))), (5, .int (nI o))] → W p l e (headSpec wsX0_values ({ frames := 3, cells := 0, slots := 0, locals := 80 })).room s m ([.ref h0, .ref h2, .int x] : List Value).toArray below meth c s.heap [] 0 0 (MQ below (QcRead 1) ([.ref h0, .ref h2, .int x] : List Value).toArray s 0 0 (fun _ => False)) (F0 m 66 ls [.int (nI y)]) := by
    intro o y ho hy ls hl
    have ho2 : o < 2 := by rw [ho]; by_cases h : zx_sm w < 2 * zx_mo w x + 4 <;> simp [h]
    refine lv_istore (lv' := [(6, .int (nI y)), (0, .ref h0), (1, .ref h2), (2, .int x), (3, .int (nI (zx_mo w x))), (5, .int (nI o))]) hx hb dX0_values_66 hl (by decide) rfl (fun ls hl => ?_)
    refine lv_iload hx hb dX0_values_68 (lv_at hl 5 rfl) ?_
    refine lv_if_eq (tgt := 82) hx hb dX0_values_70 (by decide) (fun c_70 => ?_) (fun c_70 => ?_)
    ·
      have c_70 : o = 0 := (nI_eq (a := o) (b := 0) (by omega) (by omega)).mp c_70
      have hc : ¬ (zx_sm w < 2 * zx_mo w x + 4) := fun h => by
        rw [if_pos h] at ho
        omega
      refine lv_iconst (v := (-1)) hx hb dX0_values_82 (by decide) ?_
      refine zx_tp (y := zx_va w x) (by unfold zx_va; rw [if_neg hc]) ?_
      exact K83 y hy ls (lv_sub hl [1, 2, 3, 4, 0] rfl)
    ·
      have c_70 : ¬ (o = 0) := fun h9 => c_70 ((nI_eq (a := o) (b := 0) (by omega) (by omega)).mpr h9)
      have hc : zx_sm w < 2 * zx_mo w x + 4 := Decidable.not_not.mp (fun h => by
        rw [if_neg h] at ho
        omega)
      refine lv_aload_n hx hb dX0_values_73 rfl (lv_at hl 2 rfl) ?_
      refine lv_iload_n hx hb dX0_values_74 rfl (lv_at hl 4 rfl) ?_
      refine lv_iconst (v := nI 0) hx hb dX0_values_75 (by decide) ?_
      refine zx_callR (W.runS (As := [.ref h2, .int (nI (zx_mo w x)), .int (nI 0)]) (rest := []) ⟨hx, hb, hml, hown, hts⟩ (met_ahead l D h2 d2 u w hu (zx_mo w x) 0 hmo.2 (by decide)) (va_cwS 3 hts (lw_S q42 q43 q3 q44) rfl rfl rfl (by decide +kernel) ⟨Nat.le_of_ble_eq_true rfl, Nat.le_of_ble_eq_true rfl⟩) (zx_preS (hP.sub [2] rfl) (hK.sub [1] rfl)) rfl rfl hl.1 rfl (lv_room (Nat.le_of_ble_eq_true rfl)) dX0_values_76 ⟨Nat.zero_le _, Nat.zero_le _⟩) ?_
      refine lv_goto (tgt := 83) hx hb dX0_values_79 (by decide) ?_
      refine zx_tp (y := zx_va w x) (by unfold zx_va; rw [if_pos hc]; exact (zx_law w (zx_mo w x) 0 w1 w8 hmo.2 hc (fun h => absurd rfl h)).symm) ?_
      exact K83 y hy ls (lv_sub hl [1, 2, 3, 4, 0] rfl)
  have K27 : ∀ (o : Nat), o = (if zx_sm w < 2 * zx_mo w x + 4 then 1 else 0) → ∀ (ls : Array Slot), lv_has ls 9 [(0, .ref h0), (1, .ref h2), (2, .int x), (3, .int (nI (zx_mo w x))), (4, .int (nI (zx_sm w)))] → W p l e (headSpec wsX0_values ({ frames := 3, cells := 0, slots := 0, locals := 80 })).room s m ([.ref h0, .ref h2, .int x] : List Value).toArray below meth c s.heap [] 0 0 (MQ below (QcRead 1) ([.ref h0, .ref h2, .int x] : List Value).toArray s 0 0 (fun _ => False)) (F0 m 27 ls [.int (nI o)]) := by
    intro o ho ls hl
    have ho2 : o < 2 := by rw [ho]; by_cases h : zx_sm w < 2 * zx_mo w x + 4 <;> simp [h]
    refine lv_istore (lv' := [(5, .int (nI o)), (0, .ref h0), (1, .ref h2), (2, .int x), (3, .int (nI (zx_mo w x))), (4, .int (nI (zx_sm w)))]) hx hb dX0_values_27 hl (by decide) rfl (fun ls hl => ?_)
    refine lv_iload hx hb dX0_values_29 (lv_at hl 0 rfl) ?_
    refine lv_if_eq (tgt := 65) hx hb dX0_values_31 (by decide) (fun c_31 => ?_) (fun c_31 => ?_)
    ·
      have c_31 : o = 0 := (nI_eq (a := o) (b := 0) (by omega) (by omega)).mp c_31
      have hc : ¬ (zx_sm w < 2 * zx_mo w x + 4) := fun h => by
        rw [if_pos h] at ho
        omega
      refine lv_iconst (v := nI 0) hx hb dX0_values_65 (by decide) ?_
      exact K66 o 0 ho (by rw [if_neg (by omega)]) ls (lv_sub hl [1, 2, 3, 4, 0] rfl)
    ·
      have c_31 : ¬ (o = 0) := fun h9 => c_31 ((nI_eq (a := o) (b := 0) (by omega) (by omega)).mpr h9)
      have hc : zx_sm w < 2 * zx_mo w x + 4 := Decidable.not_not.mp (fun h => by
        rw [if_neg h] at ho
        omega)
      refine lv_iload hx hb dX0_values_34 (lv_at hl 5 rfl) ?_
      refine lv_iload_n hx hb dX0_values_36 rfl (lv_at hl 4 rfl) ?_
      refine lv_bipush (v := nI 7) hx hb dX0_values_37 (by decide) ?_
      refine lv_iadd hx hb dX0_values_39 ?_
      refine zx_tp (y := nI (zx_mo w x + 7)) (zx_add rfl) ?_
      refine lv_icmp_ge (tgt := 65) hx hb dX0_values_40 (by decide) (fun c_40 => ?_) (fun c_40 => ?_)
      ·
        have c_40 : zx_mo w x + 7 ≤ zx_sm w := (nI_leI (a := zx_mo w x + 7) (b := zx_sm w) (by omega) (by omega)).mp c_40
        refine lv_iconst (v := nI 0) hx hb dX0_values_65 (by decide) ?_
        exact K66 o 0 ho (by rw [if_neg (by omega)]) ls (lv_sub hl [1, 2, 3, 4, 0] rfl)
      ·
        have c_40 : ¬ (zx_mo w x + 7 ≤ zx_sm w) := fun h9 => c_40 ((nI_leI (a := zx_mo w x + 7) (b := zx_sm w) (by omega) (by omega)).mpr h9)
        refine lv_aload_n hx hb dX0_values_43 rfl (lv_at hl 2 rfl) ?_
        refine lv_iconst (v := nI 0) hx hb dX0_values_44 (by decide) ?_
        refine va_iald hx hb hK hP 2 1 rfl rfl (vp_in_nI (by omega) (by decide)) dX0_values_45 ?_
        refine zx_tp (y := nI (w 0)) (zx_ld hu.1 (by omega) (by decide)) ?_
        refine lv_aload_n hx hb dX0_values_46 rfl (lv_at hl 2 rfl) ?_
        refine lv_iconst (v := nI 1) hx hb dX0_values_47 (by decide) ?_
        refine va_iald hx hb hK hP 2 1 rfl rfl (vp_in_nI (by omega) (by decide)) dX0_values_48 ?_
        refine zx_tp (y := nI (w 1)) (zx_ld hu.1 (by omega) (by decide)) ?_
        refine lv_aload_n hx hb dX0_values_49 rfl (lv_at hl 2 rfl) ?_
        refine lv_iconst (v := nI 2) hx hb dX0_values_50 (by decide) ?_
        refine va_iald hx hb hK hP 2 1 rfl rfl (vp_in_nI (by omega) (by decide)) dX0_values_51 ?_
        refine zx_tp (y := nI (w 2)) (zx_ld hu.1 (by omega) (by decide)) ?_
        refine lv_aload_n hx hb dX0_values_52 rfl (lv_at hl 2 rfl) ?_
        refine lv_iconst (v := nI 3) hx hb dX0_values_53 (by decide) ?_
        refine va_iald hx hb hK hP 2 1 rfl rfl (vp_in_nI (by omega) (by decide)) dX0_values_54 ?_
        refine zx_tp (y := nI (w 3)) (zx_ld hu.1 (by omega) (by decide)) ?_
        refine zx_callR (W.runS (As := [.int (nI (w 0)), .int (nI (w 1)), .int (nI (w 2)), .int (nI (w 3))]) (rest := []) ⟨hx, hb, hml, hown, hts⟩ (met_narrow l (w 0) (w 1) (w 2) (w 3) (by omega)) (va_cwS 4 hts (lw_S q39 q40 q3 q41) rfl rfl rfl (by decide +kernel) ⟨Nat.le_of_ble_eq_true rfl, Nat.le_of_ble_eq_true rfl⟩) (zx_preN) rfl rfl hl.1 rfl (lv_room (Nat.le_of_ble_eq_true rfl)) dX0_values_55 ⟨Nat.zero_le _, Nat.zero_le _⟩) ?_
        refine lv_if_eq (tgt := 65) hx hb dX0_values_58 (by decide) (fun c_58 => ?_) (fun c_58 => ?_)
        ·
          have c_58 : zx_nr w = 0 := (nI_eq (a := zx_nr w) (b := 0) (by omega) (by omega)).mp c_58
          refine lv_iconst (v := nI 0) hx hb dX0_values_65 (by decide) ?_
          exact K66 o 0 ho (by rw [if_neg (by omega)]) ls (lv_sub hl [1, 2, 3, 4, 0] rfl)
        ·
          have c_58 : ¬ (zx_nr w = 0) := fun h9 => c_58 ((nI_eq (a := zx_nr w) (b := 0) (by omega) (by omega)).mpr h9)
          refine lv_iconst (v := nI 1) hx hb dX0_values_61 (by decide) ?_
          refine lv_goto (tgt := 66) hx hb dX0_values_62 (by decide) ?_
          exact K66 o 1 ho (by rw [if_pos (by omega)]) ls (lv_sub hl [1, 2, 3, 4, 0] rfl)
  refine lv_aload_n hx hb dX0_values_0 rfl (lv_at hl 1 rfl) ?_
  refine lv_iload_n hx hb dX0_values_1 rfl (lv_at hl 2 rfl) ?_
  refine zx_callR (W.runS (As := [.ref h2, .int x]) (rest := []) ⟨hx, hb, hml, hown, hts⟩ (met_most l D h2 d2 u w hu x) (va_cwS 2 hts (lw_S q29 q30 q3 q31) rfl rfl rfl (by decide +kernel) ⟨Nat.le_of_ble_eq_true rfl, Nat.le_of_ble_eq_true rfl⟩) (zx_preS (hP.sub [2] rfl) (hK.sub [1] rfl)) rfl rfl hl.1 rfl (lv_room (Nat.le_of_ble_eq_true rfl)) dX0_values_2 ⟨Nat.zero_le _, Nat.zero_le _⟩) ?_
  refine lv_istore_n (lv' := [(3, .int (nI (zx_mo w x))), (0, .ref h0), (1, .ref h2), (2, .int x)]) hx hb dX0_values_5 rfl hl (by decide) rfl (fun ls hl => ?_)
  refine lv_aload_n hx hb dX0_values_6 rfl (lv_at hl 2 rfl) ?_
  refine zx_callR (W.runS (As := [.ref h2]) (rest := []) ⟨hx, hb, hml, hown, hts⟩ (met_sum l D h2 d2 u w hu) (va_cwS 1 hts (lw_S q36 q37 q3 q38) rfl rfl rfl (by decide +kernel) ⟨Nat.le_of_ble_eq_true rfl, Nat.le_of_ble_eq_true rfl⟩) (zx_preS (hP.sub [2] rfl) (hK.sub [1] rfl)) rfl rfl hl.1 rfl (lv_room (Nat.le_of_ble_eq_true rfl)) dX0_values_7 ⟨Nat.zero_le _, Nat.zero_le _⟩) ?_
  refine lv_istore (lv' := [(4, .int (nI (zx_sm w))), (3, .int (nI (zx_mo w x))), (0, .ref h0), (1, .ref h2), (2, .int x)]) hx hb dX0_values_10 hl (by decide) rfl (fun ls hl => ?_)
  refine lv_iload hx hb dX0_values_12 (lv_at hl 0 rfl) ?_
  refine lv_iconst (v := nI 2) hx hb dX0_values_14 (by decide) ?_
  refine lv_iload_n hx hb dX0_values_15 rfl (lv_at hl 1 rfl) ?_
  refine lv_imul hx hb dX0_values_16 ?_
  refine zx_tp (y := nI (2 * (zx_mo w x))) (zx_mul rfl) ?_
  refine lv_iconst (v := nI 4) hx hb dX0_values_17 (by decide) ?_
  refine lv_iadd hx hb dX0_values_18 ?_
  refine zx_tp (y := nI (2 * (zx_mo w x) + 4)) (zx_add rfl) ?_
  refine lv_icmp_ge (tgt := 26) hx hb dX0_values_19 (by decide) (fun c_19 => ?_) (fun c_19 => ?_)
  ·
    have c_19 : 2 * (zx_mo w x) + 4 ≤ zx_sm w := (nI_leI (a := 2 * (zx_mo w x) + 4) (b := zx_sm w) (by omega) (by omega)).mp c_19
    refine lv_iconst (v := nI 0) hx hb dX0_values_26 (by decide) ?_
    exact K27 0 (by rw [if_neg (by omega)]) ls (lv_sub hl [2, 3, 4, 1, 0] rfl)
  ·
    have c_19 : ¬ (2 * (zx_mo w x) + 4 ≤ zx_sm w) := fun h9 => c_19 ((nI_leI (a := 2 * (zx_mo w x) + 4) (b := zx_sm w) (by omega) (by omega)).mpr h9)
    refine lv_iconst (v := nI 1) hx hb dX0_values_22 (by decide) ?_
    refine lv_goto (tgt := 27) hx hb dX0_values_23 (by decide) ?_
    exact K27 1 (by rw [if_pos (by omega)]) ls (lv_sub hl [2, 3, 4, 1, 0] rfl)
set_option maxHeartbeats 4000000 in
/-- holds(d, w): true -/
theorem met_holds (l : Launch) (D : va_G) (h0 h1 h2 : Nat) (d1 d2 : ClassId) (f u : Nat → Int32) (w : Nat → Nat) (hf : zx_ok f w) (hu : zx_ok u w) : Met l yX0_holds wsX0_holds ({ frames := 1, cells := 0, slots := 0, locals := 21 }) (va_Pc [.ref h0, .ref h2] (zx_Rd D [(h0, .inr (0, [.ref h1])), (h1, .inl (d1, 4, .inl f)), (h2, .inl (d2, 4, .inl u))] [(d1, .int), (d2, .int)])) (QcRead 1) 0 0 (fun _ => False) := by
  refine Met.ofW (cc := cX0_holds) (maxL := 3) (ret := (some .boolean)) (by decide) rfl ?_
  intro p e s m args below meth c s₁ B hml hv
  obtain ⟨ha, hP, hK⟩ := hv
  have hx := B.exec
  have hb := B.bytes
  have hr := B.returns
  have hts := atoms_spec (ws := wsX0_holds) B.pre
  have hts : ∀ w ∈ lw_all, w.before _ s = true := fun w h => hts w (List.mem_cons_of_mem _ h)
  have hown : s.vm.findClass RX0 = some m.cls := findClass_of_methodNamed B.named
  have hlocks := B.notSynchronized
  subst ha
  have hl := lv_entry [.ref h0, .ref h2] (n := 3) (Nat.le_of_ble_eq_true rfl)
  rw [lg_entry_eq]
  generalize (lg_sl [.ref h0, .ref h2] ++ List.replicate (3 - (lg_sl [.ref h0, .ref h2]).length) Slot.unset).toArray = ls at hl ⊢
  have hl : lv_has ls 3 [(0, .ref h0), (1, .ref h2)] := hl
  have K : ∀ (k t : Nat) (iv : Int32), t + k = 12 → iv = nI t - 4 → ∀ (ls : Array Slot), lv_has ls 3 [(0, .ref h0), (1, .ref h2), (2, .int iv)] → W p l e (headSpec wsX0_holds ({ frames := 1, cells := 0, slots := 0, locals := 21 })).room s m ([.ref h0, .ref h2] : List Value).toArray below meth c s.heap [] 0 0 (MQ below (QcRead 1) ([.ref h0, .ref h2] : List Value).toArray s 0 0 (fun _ => False)) (F0 m 3 ls []) := by
    intro k
    induction k with
    | zero =>
      intro t iv ht hiv ls hl
      refine lv_iload_n hx hb dX0_holds_3 rfl (lv_at hl 2 rfl) ?_
      refine lv_bipush (v := nI 8) hx hb dX0_holds_4 (by decide) ?_
      refine lv_icmp_ge (tgt := 30) hx hb dX0_holds_6 (by decide) (fun c_6 => ?_) (fun c_6 => absurd (by rw [hiv, show t = 12 from ht]; decide) c_6)
      refine lv_iconst (v := nI 1) hx hb dX0_holds_30 (by decide) ?_
      exact W.zret (v := nI 1) hx hb hr (rfl) (fun u9 hu9 hw9 => ⟨congrArg (fun z => Outcome.returned (some (Value.int z))) (rfl), hu9⟩) (fun q h9 => by cases h9) dX0_holds_31
    | succ k ih =>
      intro t iv ht hiv ls hl
      have h3 := zx_i3_lt iv
      have hw3 := hf.2 (zx_i3 iv) h3
      refine lv_iload_n hx hb dX0_holds_3 rfl (lv_at hl 2 rfl) ?_
      refine lv_bipush (v := nI 8) hx hb dX0_holds_4 (by decide) ?_
      refine lv_icmp_ge (tgt := 30) hx hb dX0_holds_6 (by decide) (fun c_6 => absurd c_6 (by rw [hiv]; exact zx_hi t (by omega))) (fun c_6 => ?_)
      refine lv_aload_n hx hb dX0_holds_9 rfl (lv_at hl 0 rfl) ?_
      refine lv_iload_n hx hb dX0_holds_10 rfl (lv_at hl 2 rfl) ?_
      refine zx_callR (W.runV (As := [.int iv]) (rest := []) ⟨hx, hb, hml, hown, hts⟩ (met_dwidth l D h0 h1 d1 f w hf iv) (cwV 1 hts (lw_V q75 q76 q77 q4 q78) rfl rfl rfl (by decide +kernel) ⟨Nat.le_of_ble_eq_true rfl, Nat.le_of_ble_eq_true rfl⟩) (zx_preV (hP.sub [0, 1] rfl) (hK.sub [0] rfl) rfl) rfl rfl hl.1 rfl (lv_room (Nat.le_of_ble_eq_true rfl)) dX0_holds_11 ⟨Nat.zero_le _, Nat.zero_le _⟩) ?_
      refine lv_aload_n hx hb dX0_holds_14 rfl (lv_at hl 1 rfl) ?_
      refine lv_iload_n hx hb dX0_holds_15 rfl (lv_at hl 2 rfl) ?_
      refine lv_iconst (v := nI 3) hx hb dX0_holds_16 (by decide) ?_
      refine lv_iand hx hb dX0_holds_17 ?_
      refine zx_tp (y := nI (zx_i3 iv)) (zx_i3_eq iv) ?_
      refine va_iald hx hb hK hP 2 1 rfl rfl (vp_in_nI (by omega) (by decide)) dX0_holds_18 ?_
      refine zx_tp (y := nI (w (zx_i3 iv))) (zx_ld hu.1 (by omega) (by decide)) ?_
      refine lv_icmp_eq (tgt := 24) hx hb dX0_holds_19 (by decide) (fun c_19 => ?_) (fun c_19 => absurd ((nI_eq (a := w (zx_i3 iv)) (b := w (zx_i3 iv)) (by omega) (by omega)).mpr rfl) c_19)
      refine lv_iinc (v := iv + (1)) (lv' := [(2, .int (iv + (1))), (0, .ref h0), (1, .ref h2)]) hx hb dX0_holds_24 hl (k := 2) rfl (rfl) (by decide) rfl (fun ls hl => ?_)
      refine lv_goto (tgt := 3) hx hb dX0_holds_27 (by decide) ?_
      exact ih (t + 1) (iv + (1)) (by omega) (by rw [hiv]; exact zx_h1 t) ls (lv_sub hl [1, 2, 0] rfl)
  refine lv_bipush (v := (-4)) hx hb dX0_holds_0 (by decide) ?_
  refine lv_istore_n (lv' := [(2, .int ((-4))), (0, .ref h0), (1, .ref h2)]) hx hb dX0_holds_2 rfl hl (by decide) rfl (fun ls hl => ?_)
  exact K 12 0 _ rfl (by decide) ls (lv_sub hl [1, 2, 0] rfl)
end
section
set_option maxRecDepth 100000
/-! the law's told -/
def zx_up (w : Nat → Nat) (j v : Nat) : Nat → Nat := fun k => if k = j then v else w k
theorem zx_ok_upd {f : Nat → Int32} {w : Nat → Nat} (i v : Nat) (h : zx_ok f w) (h1 : 1 ≤ v) (h8 : v ≤ 8) : zx_ok (upd f i (nI v)) (zx_up w i v) := by
  refine ⟨fun j hj => ?_, fun j hj => ?_⟩
  · by_cases e : j = i
    · rw [e, pk_us]; exact (congrArg nI (if_pos rfl : zx_up w i v i = v)).symm
    · rw [pk_un e, h.1 j hj]; exact (congrArg nI (if_neg e : zx_up w i v j = w j)).symm
  · by_cases e : j = i
    · rw [e, show zx_up w i v i = v from if_pos rfl]; exact ⟨h1, h8⟩
    · rw [show zx_up w i v j = w j from if_neg e]; exact h.2 j hj
theorem zx_and17 (sv : Nat) (h : sv = 1 ∨ sv = 7) (X : Int32) : ∃ v, v < 8 ∧ X &&& (nI sv) = nI v := by
  rcases h with e | e
  · subst e
    exact ⟨X.toBitVec.toNat % 2 ^ 1, Nat.lt_trans (Nat.mod_lt _ (by decide)) (by decide), pk_and X 1 (by decide)⟩
  · subst e
    exact ⟨X.toBitVec.toNat % 2 ^ 3, Nat.mod_lt _ (by decide), pk_and X 3 (by decide)⟩
theorem zx_m1 : ∀ v, v < 9 → 1 ≤ v → 1 + zx_i7 (nI (v - 1)) = v := by decide +kernel
theorem zx_m9 : ∀ v, v < 9 → 1 ≤ v → 1 + zx_i7 ((nI v) - (nI 9)) = v := by decide +kernel
theorem zx_p7 : ∀ v, v < 9 → 1 ≤ v → 1 + zx_i7 (nI (v + 7)) = v := by decide +kernel
theorem zx_p1023 : ∀ v, v < 9 → 1 ≤ v → 1 + zx_i7 (nI (v + 1023)) = v := by decide +kernel
theorem zx_ok_sets {f : Nat → Int32} {w : Nat → Nat} (h : ∀ j, j < 4 → 1 ≤ w j ∧ w j ≤ 8) : zx_ok (upd (upd (upd (upd f 0 (nI (1 + zx_i7 (nI (w 0 - 1))))) 1 (nI (1 + zx_i7 ((nI (w 1)) - (nI 9))))) 2 (nI (1 + zx_i7 (nI (w 2 + 7))))) 3 (nI (1 + zx_i7 (nI (w 3 + 1023))))) w := by
  have b0 := h 0 (by decide)
  have b1 := h 1 (by decide)
  have b2 := h 2 (by decide)
  have b3 := h 3 (by decide)
  rw [zx_m1 (w 0) (by omega) b0.1, zx_m9 (w 1) (by omega) b1.1, zx_p7 (w 2) (by omega) b2.1, zx_p1023 (w 3) (by omega) b3.1]
  refine ⟨fun j hj => ?_, h⟩
  rcases (show j = 0 ∨ j = 1 ∨ j = 2 ∨ j = 3 by omega) with e | e | e | e <;> subst e <;> rfl
set_option maxHeartbeats 4000000 in
/-- told(d, w, x): both hold the same widths behind it -/
theorem met_told (l : Launch) (D : va_G) (h0 h1 h2 sz : Nat) (d1 d2 : ClassId) (f u : Nat → Int32) (w : Nat → Nat) (hf : zx_ok f w) (hu : zx_ok u w) (x : Int32) : Met l yX0_told wsX0_told ({ frames := 1, cells := 0, slots := 0, locals := 24 }) (va_Pc [.ref h0, .ref h2, .int x] (zx_Wr D [(h0, .inr (0, [.ref h1])), (h1, .inl (d1, 4, .inl f)), (h2, .inl (d2, 4, .inl u))] [(d1, .int), (d2, .int)] sz)) (va_Qv (fun _ : Unit => True) (fun _ t => ∃ (f' u' : Nat → Int32) (w' : Nat → Nat), zx_Wp D [(h0, .inr (0, [.ref h1])), (h1, .inl (d1, 4, .inl f')), (h2, .inl (d2, 4, .inl u'))] [(d1, .int), (d2, .int)] (va_A [(h0, .inr (0, [.ref h1])), (h1, .inl (d1, 4, .inl f)), (h2, .inl (d2, 4, .inl u))] sz) t ∧ zx_ok f' w' ∧ zx_ok u' w') (va_A [(h0, .inr (0, [.ref h1])), (h1, .inl (d1, 4, .inl f)), (h2, .inl (d2, 4, .inl u))] sz)) 0 0 (va_A [(h0, .inr (0, [.ref h1])), (h1, .inl (d1, 4, .inl f)), (h2, .inl (d2, 4, .inl u))] sz) := by
  refine Met.ofW (cc := cX0_told) (maxL := 5) (ret := none) (by decide) rfl ?_
  intro p e s m args below meth c s₁ B hml hv
  obtain ⟨ha, hsz, hP, hK, hD0⟩ := hv
  have hx := B.exec
  have hb := B.bytes
  have hr := B.returns
  have hts := atoms_spec (ws := wsX0_told) B.pre
  have hts : ∀ w ∈ lw_all, w.before _ s = true := fun w h => hts w (List.mem_cons_of_mem _ h)
  have hown : s.vm.findClass RX0 = some m.cls := findClass_of_methodNamed B.named
  have hlocks := B.notSynchronized
  subst ha
  subst hsz
  have hD := hD0.self (sz := s.heap.size)
  generalize hAe : va_A [(h0, .inr (0, [.ref h1])), (h1, .inl (d1, 4, .inl f)), (h2, .inl (d2, 4, .inl u))] s.heap.size = A at hD ⊢
  have hA : ∀ q : Nat, s.heap.size ≤ q → A q := fun q h => by rw [← hAe]; exact Or.inr h
  have hS : va_S A s.heap s.heap [] := va_S.rf
  have hP : va_P D vwCl [(h0, .inr (0, [.ref h1])), (h1, .inl (d1, 4, .inl f)), (h2, .inl (d2, 4, .inl u))] s.heap := hP
  have hl := lv_entry [.ref h0, .ref h2, .int x] (n := 5) (Nat.le_of_ble_eq_true rfl)
  rw [lg_entry_eq]
  generalize (lg_sl [.ref h0, .ref h2, .int x] ++ List.replicate (5 - (lg_sl [.ref h0, .ref h2, .int x]).length) Slot.unset).toArray = ls at hl ⊢
  have hl : lv_has ls 5 [(0, .ref h0), (1, .ref h2), (2, .int x)] := hl
  have K49 : ∀ (sv : Nat), sv = 1 ∨ sv = 7 → ∀ (k i : Nat) (u : Nat → Int32) (w : Nat → Nat) (H : Heap) (locs : List Loc), i + k = 4 → zx_ok u w → va_P D vwCl [(h0, .inr (0, [.ref h1])), (h1, .inl (d1, 4, .inl f)), (h2, .inl (d2, 4, .inl u))] H → va_D A [(h0, .inr (0, [.ref h1])), (h1, .inl (d1, 4, .inl f)), (h2, .inl (d2, 4, .inl u))] → va_S A s.heap H locs → ∀ (ls : Array Slot), lv_has ls 5 [(0, .ref h0), (1, .ref h2), (2, .int x), (3, .int (nI sv)), (4, .int (nI i))] → W p l e (headSpec wsX0_told ({ frames := 1, cells := 0, slots := 0, locals := 24 })).room s m ([.ref h0, .ref h2, .int x] : List Value).toArray below meth c H locs 0 0 (MQ below (va_Qv (fun _ : Unit => True) (fun _ t => ∃ (f' u' : Nat → Int32) (w' : Nat → Nat), zx_Wp D [(h0, .inr (0, [.ref h1])), (h1, .inl (d1, 4, .inl f')), (h2, .inl (d2, 4, .inl u'))] [(d1, .int), (d2, .int)] A t ∧ zx_ok f' w' ∧ zx_ok u' w') A) ([.ref h0, .ref h2, .int x] : List Value).toArray s 0 0 A) (F0 m 49 ls []) := by
    intro sv hsv k
    induction k with
    | zero =>
      intro i u w H locs hi hu hP hD hS ls hl
      have b0 := hu.2 0 (by decide)
      have b1 := hu.2 1 (by decide)
      have b2 := hu.2 2 (by decide)
      have b3 := hu.2 3 (by decide)
      refine lv_iload hx hb dX0_told_49 (lv_at hl 4 rfl) ?_
      refine lv_iconst (v := nI 4) hx hb dX0_told_51 (by decide) ?_
      refine lv_icmp_ge (tgt := 77) hx hb dX0_told_52 (by decide) (fun c_52 => ?_) (fun c_52 => absurd ((nI_leI (a := 4) (b := i) (by omega) (by omega)).mpr (by omega)) c_52)
      refine lv_aload_n hx hb dX0_told_77 rfl (lv_at hl 0 rfl) ?_
      refine lv_aload_n hx hb dX0_told_78 rfl (lv_at hl 1 rfl) ?_
      refine lv_iconst (v := nI 0) hx hb dX0_told_79 (by decide) ?_
      refine va_iald hx hb hK hP 2 1 rfl rfl (vp_in_nI (by omega) (by decide)) dX0_told_80 ?_
      refine zx_tp (y := nI (w 0)) (zx_ld hu.1 (by omega) (by decide)) ?_
      refine lv_iconst (v := nI 1) hx hb dX0_told_81 (by decide) ?_
      refine lv_isub hx hb dX0_told_82 ?_
      refine zx_tp (y := nI (w 0 - 1)) (zx_sub (by omega) rfl) ?_
      refine lv_aload_n hx hb dX0_told_83 rfl (lv_at hl 1 rfl) ?_
      refine lv_iconst (v := nI 1) hx hb dX0_told_84 (by decide) ?_
      refine va_iald hx hb hK hP 2 1 rfl rfl (vp_in_nI (by omega) (by decide)) dX0_told_85 ?_
      refine zx_tp (y := nI (w 1)) (zx_ld hu.1 (by omega) (by decide)) ?_
      refine lv_bipush (v := nI 9) hx hb dX0_told_86 (by decide) ?_
      refine lv_isub hx hb dX0_told_88 ?_
      refine lv_aload_n hx hb dX0_told_89 rfl (lv_at hl 1 rfl) ?_
      refine lv_iconst (v := nI 2) hx hb dX0_told_90 (by decide) ?_
      refine va_iald hx hb hK hP 2 1 rfl rfl (vp_in_nI (by omega) (by decide)) dX0_told_91 ?_
      refine zx_tp (y := nI (w 2)) (zx_ld hu.1 (by omega) (by decide)) ?_
      refine lv_bipush (v := nI 7) hx hb dX0_told_92 (by decide) ?_
      refine lv_iadd hx hb dX0_told_94 ?_
      refine zx_tp (y := nI (w 2 + 7)) (zx_add rfl) ?_
      refine lv_aload_n hx hb dX0_told_95 rfl (lv_at hl 1 rfl) ?_
      refine lv_iconst (v := nI 3) hx hb dX0_told_96 (by decide) ?_
      refine va_iald hx hb hK hP 2 1 rfl rfl (vp_in_nI (by omega) (by decide)) dX0_told_97 ?_
      refine zx_tp (y := nI (w 3)) (zx_ld hu.1 (by omega) (by decide)) ?_
      refine lv_sipush (v := nI 1023) hx hb dX0_told_98 (by decide) ?_
      refine lv_iadd hx hb dX0_told_101 ?_
      refine zx_tp (y := nI (w 3 + 1023)) (zx_add rfl) ?_
      have hPc := hP.sub (ws' := [(h0, .inr (0, [.ref h1])), (h1, .inl (d1, 4, .inl f))]) [0, 1] rfl
      have hDc := hD.sub (ws' := [(h0, .inr (0, [.ref h1])), (h1, .inl (d1, 4, .inl f))]) [0, 1] (by decide) rfl
      have hKc := hK.sub (tys' := [(d1, .int)]) [0] rfl
      have hFc := va_free (wc := [(h0, .inr (0, [.ref h1])), (h1, .inl (d1, 4, .inl f))]) hD hS hA [0, 1] rfl
      refine va_callv (va_runV (As := [.int (nI (w 0 - 1)), .int ((nI (w 1)) - (nI 9)), .int (nI (w 2 + 7)), .int (nI (w 3 + 1023))]) (rest := []) ⟨hx, hb, hml, hown, hts⟩ (met_dsets l D h0 h1 H.size d1 f (nI (w 0 - 1)) ((nI (w 1)) - (nI 9)) (nI (w 2 + 7)) (nI (w 3 + 1023))) (cwV 4 hts (lw_V q82 q83 q84 q4 q85) rfl rfl rfl (by decide +kernel) ⟨Nat.le_of_ble_eq_true rfl, Nat.le_of_ble_eq_true rfl⟩) (zx_preVw hPc hKc hDc rfl) rfl rfl hl.1 rfl (lv_room (Nat.le_of_ble_eq_true rfl)) dX0_told_102 ⟨Nat.zero_le _, Nat.zero_le _⟩) hS (fun q _ h => hFc q h) hFc (fun u9 t9 H1 locs ht9 hvm9 hw9 hB9 hz9 hk9 hS => ?_)
      obtain ⟨hP1, hK1, hD1⟩ := hB9
      rw [ht9] at hP1
      have hK1 := va_K.moved hvm9.symm hK1
      obtain ⟨hP, hD⟩ := va_join (wr := [(h2, .inl (d2, 4, .inl u))]) (w1 := [(h0, .inr (0, [.ref h1])), (h1, .inl (d1, 4, .inl (upd (upd (upd (upd f 0 (nI (1 + zx_i7 (nI (w 0 - 1))))) 1 (nI (1 + zx_i7 ((nI (w 1)) - (nI 9))))) 2 (nI (1 + zx_i7 (nI (w 2 + 7))))) 3 (nI (1 + zx_i7 (nI (w 3 + 1023)))))))]) hP hD [0, 1] [2] rfl rfl (by decide) (by decide) hk9 hFc hP1 hD1
      generalize H1 = H at hP hS ⊢
      have hP : va_P D vwCl [(h0, .inr (0, [.ref h1])), (h1, .inl (d1, 4, .inl (upd (upd (upd (upd f 0 (nI (1 + zx_i7 (nI (w 0 - 1))))) 1 (nI (1 + zx_i7 ((nI (w 1)) - (nI 9))))) 2 (nI (1 + zx_i7 (nI (w 2 + 7))))) 3 (nI (1 + zx_i7 (nI (w 3 + 1023))))))), (h2, .inl (d2, 4, .inl u))] H := hP.sub [1, 2, 0] rfl
      have hD := hD.sub (ws' := [(h0, .inr (0, [.ref h1])), (h1, .inl (d1, 4, .inl (upd (upd (upd (upd f 0 (nI (1 + zx_i7 (nI (w 0 - 1))))) 1 (nI (1 + zx_i7 ((nI (w 1)) - (nI 9))))) 2 (nI (1 + zx_i7 (nI (w 2 + 7))))) 3 (nI (1 + zx_i7 (nI (w 3 + 1023))))))), (h2, .inl (d2, 4, .inl u))]) [1, 2, 0] (by decide) rfl
      refine W.widen (k := 0) (n := 0) (by decide) (by decide) ?_
      exact W.vret hx hb hr (fun u9 hu9 hw9 => ⟨⟨(), rfl, trivial, _, _, _, ⟨by rw [hu9]; exact hP, va_K.moved hw9.alike hK, hD⟩, zx_ok_sets hu.2, hu⟩, hS.F hu9⟩) hS.2.2 dX0_told_105
    | succ k ih =>
      intro i u w H locs hi hu hP hD hS ls hl
      obtain ⟨v, hv, hve⟩ := zx_and17 sv hsv (x >>> ((nI (2 + (3 * i))) &&& 31))
      refine lv_iload hx hb dX0_told_49 (lv_at hl 4 rfl) ?_
      refine lv_iconst (v := nI 4) hx hb dX0_told_51 (by decide) ?_
      refine lv_icmp_ge (tgt := 77) hx hb dX0_told_52 (by decide) (fun c_52 => absurd ((nI_leI (a := 4) (b := i) (by omega) (by omega)).mp c_52) (by omega)) (fun c_52 => ?_)
      refine lv_aload_n hx hb dX0_told_55 rfl (lv_at hl 1 rfl) ?_
      refine lv_iload hx hb dX0_told_56 (lv_at hl 4 rfl) ?_
      refine lv_iconst (v := nI 1) hx hb dX0_told_58 (by decide) ?_
      refine lv_iload_n hx hb dX0_told_59 rfl (lv_at hl 2 rfl) ?_
      refine lv_iconst (v := nI 2) hx hb dX0_told_60 (by decide) ?_
      refine lv_iconst (v := nI 3) hx hb dX0_told_61 (by decide) ?_
      refine lv_iload hx hb dX0_told_62 (lv_at hl 4 rfl) ?_
      refine lv_imul hx hb dX0_told_64 ?_
      refine zx_tp (y := nI (3 * i)) (zx_mul rfl) ?_
      refine lv_iadd hx hb dX0_told_65 ?_
      refine zx_tp (y := nI (2 + (3 * i))) (zx_add rfl) ?_
      refine lv_ishr hx hb dX0_told_66 ?_
      refine lv_iload_n hx hb dX0_told_67 rfl (lv_at hl 3 rfl) ?_
      refine lv_iand hx hb dX0_told_68 ?_
      refine zx_tp (y := nI v) (hve) ?_
      refine lv_iadd hx hb dX0_told_69 ?_
      refine zx_tp (y := nI (1 + v)) (zx_add rfl) ?_
      refine va_iast hx hb hK hP hD hS 2 1 rfl rfl (vp_in_nI (by omega) (by decide)) dX0_told_70 (fun H locs hP hD hS => ?_)
      rw [nI_clamp (show i < 2 ^ 31 by omega)] at hP hD
      have hP : va_P D vwCl [(h0, .inr (0, [.ref h1])), (h1, .inl (d1, 4, .inl f)), (h2, .inl (d2, 4, .inl (upd u i (nI (1 + v)))))] H := hP
      have hD : va_D A [(h0, .inr (0, [.ref h1])), (h1, .inl (d1, 4, .inl f)), (h2, .inl (d2, 4, .inl (upd u i (nI (1 + v)))))] := hD
      refine lv_iinc (v := nI (i + 1)) (lv' := [(4, .int (nI (i + 1))), (0, .ref h0), (1, .ref h2), (2, .int x), (3, .int (nI sv))]) hx hb dX0_told_71 hl (k := 4) rfl (zx_inc rfl) (by decide) rfl (fun ls hl => ?_)
      refine lv_goto (tgt := 49) hx hb dX0_told_74 (by decide) ?_
      exact ih (i + 1) _ _ H locs (by omega) (zx_ok_upd i (1 + v) hu (by omega) (by omega)) hP hD hS ls (lv_sub hl [1, 2, 3, 4, 0] rfl)
  have K45 : ∀ (sv : Nat), sv = 1 ∨ sv = 7 → ∀ (ls : Array Slot), lv_has ls 5 [(0, .ref h0), (1, .ref h2), (2, .int x)] → W p l e (headSpec wsX0_told ({ frames := 1, cells := 0, slots := 0, locals := 24 })).room s m ([.ref h0, .ref h2, .int x] : List Value).toArray below meth c s.heap [] 0 0 (MQ below (va_Qv (fun _ : Unit => True) (fun _ t => ∃ (f' u' : Nat → Int32) (w' : Nat → Nat), zx_Wp D [(h0, .inr (0, [.ref h1])), (h1, .inl (d1, 4, .inl f')), (h2, .inl (d2, 4, .inl u'))] [(d1, .int), (d2, .int)] A t ∧ zx_ok f' w' ∧ zx_ok u' w') A) ([.ref h0, .ref h2, .int x] : List Value).toArray s 0 0 A) (F0 m 45 ls [.int (nI sv)]) := by
    intro sv hsv ls hl
    refine lv_istore_n (lv' := [(3, .int (nI sv)), (0, .ref h0), (1, .ref h2), (2, .int x)]) hx hb dX0_told_45 rfl hl (by decide) rfl (fun ls hl => ?_)
    refine lv_iconst (v := nI 0) hx hb dX0_told_46 (by decide) ?_
    refine lv_istore (lv' := [(4, .int (nI 0)), (3, .int (nI sv)), (0, .ref h0), (1, .ref h2), (2, .int x)]) hx hb dX0_told_47 hl (by decide) rfl (fun ls hl => ?_)
    exact K49 sv hsv 4 0 u w s.heap [] rfl hu hP hD hS ls (lv_sub hl [2, 3, 4, 1, 0] rfl)
  have h3x := zx_i3_lt x
  refine lv_iload_n hx hb dX0_told_0 rfl (lv_at hl 2 rfl) ?_
  refine lv_iconst (v := nI 3) hx hb dX0_told_1 (by decide) ?_
  refine lv_iand hx hb dX0_told_2 ?_
  refine zx_tp (y := nI (zx_i3 x)) (zx_i3_eq x) ?_
  refine lv_if_ne (tgt := 32) hx hb dX0_told_3 (by decide) (fun c_3 => ?_) (fun c_3 => ?_)
  ·
    have c_3 : ¬ (zx_i3 x = 0) := fun h9 => c_3 ((nI_eq (a := zx_i3 x) (b := 0) (by omega) (by omega)).mpr h9)
    refine lv_iload_n hx hb dX0_told_32 rfl (lv_at hl 2 rfl) ?_
    refine lv_iconst (v := nI 3) hx hb dX0_told_33 (by decide) ?_
    refine lv_iand hx hb dX0_told_34 ?_
    refine zx_tp (y := nI (zx_i3 x)) (zx_i3_eq x) ?_
    refine lv_iconst (v := nI 1) hx hb dX0_told_35 (by decide) ?_
    refine lv_icmp_ne (tgt := 43) hx hb dX0_told_36 (by decide) (fun c_36 => ?_) (fun c_36 => ?_)
    ·
      have c_36 : ¬ (zx_i3 x = 1) := fun h9 => c_36 ((nI_eq (a := zx_i3 x) (b := 1) (by omega) (by omega)).mpr h9)
      refine lv_bipush (v := nI 7) hx hb dX0_told_43 (by decide) ?_
      exact K45 7 (Or.inr rfl) ls (lv_sub hl [0, 1, 2] rfl)
    ·
      have c_36 : zx_i3 x = 1 := (nI_eq (a := zx_i3 x) (b := 1) (by omega) (by omega)).mp c_36
      refine lv_iconst (v := nI 1) hx hb dX0_told_39 (by decide) ?_
      refine lv_goto (tgt := 45) hx hb dX0_told_40 (by decide) ?_
      exact K45 1 (Or.inl rfl) ls (lv_sub hl [0, 1, 2] rfl)
  ·
    have c_3 : zx_i3 x = 0 := (nI_eq (a := zx_i3 x) (b := 0) (by omega) (by omega)).mp c_3
    have h3 := zx_i3_lt (x >>> ((nI 2) &&& 31))
    have h7 := zx_i7_lt (x >>> ((nI 4) &&& 31))
    refine lv_aload_n hx hb dX0_told_6 rfl (lv_at hl 1 rfl) ?_
    refine lv_iload_n hx hb dX0_told_7 rfl (lv_at hl 2 rfl) ?_
    refine lv_iconst (v := nI 2) hx hb dX0_told_8 (by decide) ?_
    refine lv_ishr hx hb dX0_told_9 ?_
    refine lv_iconst (v := nI 3) hx hb dX0_told_10 (by decide) ?_
    refine lv_iand hx hb dX0_told_11 ?_
    refine zx_tp (y := nI (zx_i3 (x >>> ((nI 2) &&& 31)))) (zx_i3_eq _) ?_
    refine lv_iconst (v := nI 1) hx hb dX0_told_12 (by decide) ?_
    refine lv_iload_n hx hb dX0_told_13 rfl (lv_at hl 2 rfl) ?_
    refine lv_iconst (v := nI 4) hx hb dX0_told_14 (by decide) ?_
    refine lv_ishr hx hb dX0_told_15 ?_
    refine lv_bipush (v := nI 7) hx hb dX0_told_16 (by decide) ?_
    refine lv_iand hx hb dX0_told_18 ?_
    refine zx_tp (y := nI (zx_i7 (x >>> ((nI 4) &&& 31)))) (zx_i7_eq _) ?_
    refine lv_iadd hx hb dX0_told_19 ?_
    refine zx_tp (y := nI (1 + (zx_i7 (x >>> ((nI 4) &&& 31))))) (zx_add rfl) ?_
    refine va_iast hx hb hK hP hD hS 2 1 rfl rfl (vp_in_nI (by omega) (by decide)) dX0_told_20 (fun H locs hP hD hS => ?_)
    rw [nI_clamp (show zx_i3 (x >>> ((nI 2) &&& 31)) < 2 ^ 31 by omega)] at hP hD
    have hP : va_P D vwCl [(h0, .inr (0, [.ref h1])), (h1, .inl (d1, 4, .inl f)), (h2, .inl (d2, 4, .inl (upd u (zx_i3 (x >>> ((nI 2) &&& 31))) (nI (1 + (zx_i7 (x >>> ((nI 4) &&& 31))))))))] H := hP
    have hD : va_D A [(h0, .inr (0, [.ref h1])), (h1, .inl (d1, 4, .inl f)), (h2, .inl (d2, 4, .inl (upd u (zx_i3 (x >>> ((nI 2) &&& 31))) (nI (1 + (zx_i7 (x >>> ((nI 4) &&& 31))))))))] := hD
    refine lv_aload_n hx hb dX0_told_21 rfl (lv_at hl 0 rfl) ?_
    refine lv_iload_n hx hb dX0_told_22 rfl (lv_at hl 2 rfl) ?_
    refine lv_iconst (v := nI 2) hx hb dX0_told_23 (by decide) ?_
    refine lv_ishr hx hb dX0_told_24 ?_
    refine lv_iload_n hx hb dX0_told_25 rfl (lv_at hl 2 rfl) ?_
    refine lv_iconst (v := nI 4) hx hb dX0_told_26 (by decide) ?_
    refine lv_ishr hx hb dX0_told_27 ?_
    have hPc := hP.sub (ws' := [(h0, .inr (0, [.ref h1])), (h1, .inl (d1, 4, .inl f))]) [0, 1] rfl
    have hDc := hD.sub (ws' := [(h0, .inr (0, [.ref h1])), (h1, .inl (d1, 4, .inl f))]) [0, 1] (by decide) rfl
    have hKc := hK.sub (tys' := [(d1, .int)]) [0] rfl
    have hFc := va_free (wc := [(h0, .inr (0, [.ref h1])), (h1, .inl (d1, 4, .inl f))]) hD hS hA [0, 1] rfl
    refine va_callv (va_runV (As := [.int (x >>> ((nI 2) &&& 31)), .int (x >>> ((nI 4) &&& 31))]) (rest := []) ⟨hx, hb, hml, hown, hts⟩ (met_dset l D h0 h1 H.size d1 f (x >>> ((nI 2) &&& 31)) (x >>> ((nI 4) &&& 31))) (cwV 2 hts (lw_V q19 q20 q21 q4 q22) rfl rfl rfl (by decide +kernel) ⟨Nat.le_of_ble_eq_true rfl, Nat.le_of_ble_eq_true rfl⟩) (zx_preVw hPc hKc hDc rfl) rfl rfl hl.1 rfl (lv_room (Nat.le_of_ble_eq_true rfl)) dX0_told_28 ⟨Nat.zero_le _, Nat.zero_le _⟩) hS (fun q _ h => hFc q h) hFc (fun u9 t9 H1 locs ht9 hvm9 hw9 hB9 hz9 hk9 hS => ?_)
    obtain ⟨hP1, hK1, hD1⟩ := hB9
    rw [ht9] at hP1
    have hK1 := va_K.moved hvm9.symm hK1
    obtain ⟨hP, hD⟩ := va_join (wr := [(h2, .inl (d2, 4, .inl (upd u (zx_i3 (x >>> ((nI 2) &&& 31))) (nI (1 + (zx_i7 (x >>> ((nI 4) &&& 31))))))))]) (w1 := [(h0, .inr (0, [.ref h1])), (h1, .inl (d1, 4, .inl (upd f (zx_i3 (x >>> ((nI 2) &&& 31))) (nI (1 + zx_i7 (x >>> ((nI 4) &&& 31)))))))]) hP hD [0, 1] [2] rfl rfl (by decide) (by decide) hk9 hFc hP1 hD1
    generalize H1 = H at hP hS ⊢
    have hP : va_P D vwCl [(h0, .inr (0, [.ref h1])), (h1, .inl (d1, 4, .inl (upd f (zx_i3 (x >>> ((nI 2) &&& 31))) (nI (1 + zx_i7 (x >>> ((nI 4) &&& 31))))))), (h2, .inl (d2, 4, .inl (upd u (zx_i3 (x >>> ((nI 2) &&& 31))) (nI (1 + (zx_i7 (x >>> ((nI 4) &&& 31))))))))] H := hP.sub [1, 2, 0] rfl
    have hD := hD.sub (ws' := [(h0, .inr (0, [.ref h1])), (h1, .inl (d1, 4, .inl (upd f (zx_i3 (x >>> ((nI 2) &&& 31))) (nI (1 + zx_i7 (x >>> ((nI 4) &&& 31))))))), (h2, .inl (d2, 4, .inl (upd u (zx_i3 (x >>> ((nI 2) &&& 31))) (nI (1 + (zx_i7 (x >>> ((nI 4) &&& 31))))))))]) [1, 2, 0] (by decide) rfl
    refine W.widen (k := 0) (n := 0) (by decide) (by decide) ?_
    exact W.vret hx hb hr (fun u9 hu9 hw9 => ⟨⟨(), rfl, trivial, _, _, _, ⟨by rw [hu9]; exact hP, va_K.moved hw9.alike hK, hD⟩, zx_ok_upd (zx_i3 (x >>> ((nI 2) &&& 31))) (1 + zx_i7 (x >>> ((nI 4) &&& 31))) hf (by omega) (by omega), zx_ok_upd (zx_i3 (x >>> ((nI 2) &&& 31))) (1 + zx_i7 (x >>> ((nI 4) &&& 31))) hu (by omega) (by omega)⟩, hS.F hu9⟩) hS.2.2 dX0_told_31
end
section
set_option maxRecDepth 100000
/-! THE CLAIM OUT OF ONE WALK OF THE LAW'S BODY. Your part is whole_start (and what it stands on); all else here is the same for every law, but numbers. -/
def R_law : String := "BarValueDeskLaw"
def lw_P (b : Addr) (xs : List Int32) (args : Array Value) (s : State) : Prop := args = #[.ref b] ∧ s.IntsAt b xs ∧ xs.length ≤ 96 ∧ (Jvm.Cond.and given_1 narrow_1).before args s = true
def lw_Q (_ : Array Value) (s : State) (o : Outcome) (t : State) : Prop := o = .returned (some (.int 1)) ∧ Framed s o t [] 600000 7290000
def lw_Z (below : List Frame) (a : Array Value) (s : State) : State → Prop := fun t => ∃ o, t.status = .running ∧ Ended t below o ∧ lw_Q a s o t
/-- the law's own end, with 1 on the stack, nothing written that was there before, its room as the claim has it -/
theorem lw_ret {p : Program} {l : Launch} {e : Env} {s : State} {m : MethodId} {below : List Frame} {meth : Method} {c : Code} {b : Nat} (hx : p.tables.exec = Jvm.exec) (hb : c.code = code) (hr : meth.sig.returnType = ret) (hlocks : meth.locks = false) {pc : Nat} {H : Heap} {ls : Array Slot} (hdg : decode code pc = .ok (.ireturn, 1)) : W p l e room_1 s m #[Value.ref b] below meth c H [] 600000 7290000 (lw_Z below #[Value.ref b] s) (F0 m pc ls [.int 1]) := by
  intro T hT X
  obtain ⟨fs, hret, hrun, hended, hW, hframe⟩ := X.leave (v := some (.int 1)) (hlocks := hlocks) (fun h => by rw [hr] at h; cases h)
  have hmeth' : T.vm.method? m = some meth := X.method'
  refine ⟨T.setFrames fs, ?_, .returned (some (.int 1)), hrun, hended, rfl, ⟨_, rfl⟩, hW, hframe⟩
  jvm_step X.here [X.here.top, hx, hb, hdg, hmeth', hr, ret, narrow_b1]
  (try refine ⟨rfl, ?_⟩); (try refine ⟨rfl, ?_⟩)
  first | (intro acts; rw [hret _ acts rfl rfl rfl]) | rw [hret _ _ rfl rfl rfl]
  exact Steps.refl _
/-- what holds at the law's entry: the machine, the code, the tables' words (any of lw_tbl by 'hts w (by decide +kernel)'), the script of L ints xs at the cell b, what the Statement gives of the start (any of its parts by flat_of_before) -/
def lw_At (p : Program) (s : State) (m : MethodId) (meth : Method) (c : Code) (b L : Nat) (xs : Nat → Int32) : Prop :=
  p.tables.exec = Jvm.exec ∧ c.code = code ∧ meth.sig.returnType = ret ∧ c.maxLocals = 5 ∧ s.vm.findClass R_law = some m.cls ∧ (∀ w ∈ lw_tbl, w.before #[Value.ref b] s = true) ∧ va_X b L xs s s.heap ∧ b < s.heap.size ∧ meth.locks = false ∧ (Jvm.Cond.and given_1 narrow_1).before #[Value.ref b] s = true
theorem zx_i7m : ∀ i, i < 8 → zx_i7 ((nI i) - (nI 8)) = i := by decide +kernel
set_option maxHeartbeats 4000000 in
/-- THE LAW, from its entry -/
theorem whole_start {p : Program} {e : Env} {s : State} {m : MethodId} {below : List Frame} {meth : Method} {c : Code} (l : Launch) (hflags : l.flags = flags0) {b L : Nat} {xs : Nat → Int32} (hL : L ≤ 96) (C0 : lw_At p s m meth c b L xs) : W p l e room_1 s m #[Value.ref b] below meth c s.heap [] 0 0 (lw_Z below #[Value.ref b] s) (entryFrame m ([Value.ref b] : List Value).toArray 5) := by
  obtain ⟨hx, hb, hr, hml, hown0, hts0, hX, hbl, hlocks, hgv⟩ := id C0
  have hts : ∀ w ∈ lw_all, w.before #[Value.ref b] s = true := fun w h => hts0 w (lw_all_tbl h)
  have hown : s.vm.findClass RX0 = some m.cls := hown0
  have hbA : ¬ (fun q : Nat => s.heap.size ≤ q) b := Nat.not_le.mpr hbl
  obtain ⟨c0_, iS0, hKn0⟩ := u_known (C := RX1) (T := TX1) (N := 1) (n := 1) hts0 (fun w h => lw_all_tbl (in_X1 w h)) (hts _ q7)
  obtain ⟨D, hKD⟩ : ∃ D : va_G, ∀ (k : Nat) (q : vw_C), vwCl[k]? = some q → u_Kn s q.1 q.2.1 q.2.2 (D.1 k) (D.2 k) := by
    refine ⟨(fun _ => c0_, fun _ => iS0), ?_⟩
    intro k q hq
    match k, hq with
    | 0, hq => cases hq; exact hKn0
    | k + 1, hq => simp [vwCl] at hq
  obtain ⟨A, hAe⟩ : ∃ A : Nat → Prop, A = (fun q : Nat => s.heap.size ≤ q) := ⟨_, rfl⟩
  have hA : ∀ q : Nat, s.heap.size ≤ q → A q := fun q h => by rw [hAe]; exact h
  rw [← hAe] at hbA
  have hS : va_S A s.heap s.heap [] := va_S.rf
  have hK : va_K D vwCl [] s := ⟨hKD, fun k q h => by simp at h⟩
  have hP : va_P D vwCl [] s.heap := fun k q h => by simp at h
  have hD : va_D A [] := ⟨fun i j p q h => by simp at h, fun k q h => by simp at h⟩
  have hl := lv_entry ([.ref b]) (n := 5) (Nat.le_of_ble_eq_true rfl)
  rw [lg_entry_eq]
  generalize (lg_sl ([.ref b]) ++ List.replicate (5 - (lg_sl ([.ref b])).length) Slot.unset).toArray = ls at hl ⊢
  have hl : lv_has ls 5 [(0, .ref b)] := hl
  have K110 : ∀ (h0 h1 h2 : Nat) (d1 d2 : ClassId), va_K D vwCl [(d1, .int), (d2, .int)] s → ∀ (k i : Nat) (f u : Nat → Int32) (w : Nat → Nat) (H : Heap) (locs : List Loc), i + k = 8 → zx_ok f w → zx_ok u w → va_P D vwCl [(h0, .inr (0, [.ref h1])), (h1, .inl (d1, 4, .inl f)), (h2, .inl (d2, 4, .inl u))] H → va_D A [(h0, .inr (0, [.ref h1])), (h1, .inl (d1, 4, .inl f)), (h2, .inl (d2, 4, .inl u))] → va_S A s.heap H locs → ∀ (ls : Array Slot), lv_has ls 5 [(0, .ref b), (1, .ref h0), (2, .ref h2), (3, .int (nI i))] → W p l e room_1 s m #[Value.ref b] below meth c H locs 3 9 (lw_Z below #[Value.ref b] s) (F0 m 110 ls []) := by
    intro h0 h1 h2 d1 d2 hK k
    induction k with
    | zero =>
      intro i f u w H locs hi hf hu hP hD hS ls hl
      refine lv_iload_n hx hb dL_law_110 rfl (lv_at hl 3 rfl) ?_
      refine lv_bipush (v := nI 8) hx hb dL_law_111 (by decide) ?_
      refine lv_icmp_ge (tgt := 170) hx hb dL_law_113 (by decide) (fun c_113 => ?_) (fun c_113 => absurd ((nI_leI (a := 8) (b := i) (by omega) (by omega)).mpr (by omega)) c_113)
      refine lv_iconst (v := nI 1) hx hb dL_law_170 (by decide) ?_
      refine va_forget (fun q hq => by have h9 := hS.2.2 q hq; rw [hAe] at h9; exact h9) ?_
      refine W.widen (k := 600000) (n := 7290000) (Nat.le_of_ble_eq_true rfl) (Nat.le_of_ble_eq_true rfl) ?_
      exact lw_ret hx hb hr hlocks dL_law_171
    | succ k ih =>
      intro i f u w H locs hi hf hu hP hD hS ls hl
      refine lv_iload_n hx hb dL_law_110 rfl (lv_at hl 3 rfl) ?_
      refine lv_bipush (v := nI 8) hx hb dL_law_111 (by decide) ?_
      refine lv_icmp_ge (tgt := 170) hx hb dL_law_113 (by decide) (fun c_113 => absurd ((nI_leI (a := 8) (b := i) (by omega) (by omega)).mp c_113) (by omega)) (fun c_113 => ?_)
      refine lv_aload_n hx hb dL_law_116 rfl (lv_at hl 2 rfl) ?_
      refine lv_iconst (v := nI 3) hx hb dL_law_117 (by decide) ?_
      refine lv_iconst (v := nI 1) hx hb dL_law_118 (by decide) ?_
      refine lv_iload_n hx hb dL_law_119 rfl (lv_at hl 3 rfl) ?_
      refine lv_iadd hx hb dL_law_120 ?_
      refine zx_tp (y := nI (1 + i)) (zx_add rfl) ?_
      refine va_iast hx hb hK hP hD hS 2 1 rfl rfl (vp_in_nI (by omega) (by decide)) dL_law_121 (fun H locs hP hD hS => ?_)
      rw [nI_clamp (show 3 < 2 ^ 31 by omega)] at hP hD
      have hP : va_P D vwCl [(h0, .inr (0, [.ref h1])), (h1, .inl (d1, 4, .inl f)), (h2, .inl (d2, 4, .inl (upd u 3 (nI (1 + i)))))] H := hP
      have hD : va_D A [(h0, .inr (0, [.ref h1])), (h1, .inl (d1, 4, .inl f)), (h2, .inl (d2, 4, .inl (upd u 3 (nI (1 + i)))))] := hD
      refine lv_aload_n hx hb dL_law_122 rfl (lv_at hl 1 rfl) ?_
      refine lv_iconst (v := (-1)) hx hb dL_law_123 (by decide) ?_
      refine lv_iload_n hx hb dL_law_124 rfl (lv_at hl 3 rfl) ?_
      refine lv_bipush (v := nI 8) hx hb dL_law_125 (by decide) ?_
      refine lv_isub hx hb dL_law_127 ?_
      have hPc := hP.sub (ws' := [(h0, .inr (0, [.ref h1])), (h1, .inl (d1, 4, .inl f))]) [0, 1] rfl
      have hDc := hD.sub (ws' := [(h0, .inr (0, [.ref h1])), (h1, .inl (d1, 4, .inl f))]) [0, 1] (by decide) rfl
      have hKc := hK.sub (tys' := [(d1, .int)]) [0] rfl
      have hFc := va_free (wc := [(h0, .inr (0, [.ref h1])), (h1, .inl (d1, 4, .inl f))]) hD hS hA [0, 1] rfl
      refine va_callv (va_runV (As := [.int ((-1)), .int ((nI i) - (nI 8))]) (rest := []) ⟨hx, hb, hml, hown, hts⟩ (met_dset l D h0 h1 H.size d1 f (-1) ((nI i) - (nI 8))) (cwV 2 hts (lw_V q19 q20 q21 q4 q22) rfl rfl rfl (by decide +kernel) ⟨Nat.le_of_ble_eq_true rfl, Nat.le_of_ble_eq_true rfl⟩) (zx_preVw hPc hKc hDc rfl) rfl rfl hl.1 rfl (lv_room (Nat.le_of_ble_eq_true rfl)) dL_law_128 ⟨Nat.le_of_ble_eq_true rfl, Nat.le_of_ble_eq_true rfl⟩) hS (fun q _ h => hFc q h) hFc (fun u9 t9 H1 locs ht9 hvm9 hw9 hB9 hz9 hk9 hS => ?_)
      obtain ⟨hP1, hK1, hD1⟩ := hB9
      rw [ht9] at hP1
      have hK1 := va_K.moved hvm9.symm hK1
      obtain ⟨hP, hD⟩ := va_join (wr := [(h2, .inl (d2, 4, .inl (upd u 3 (nI (1 + i)))))]) (w1 := [(h0, .inr (0, [.ref h1])), (h1, .inl (d1, 4, .inl (upd f (zx_i3 (-1)) (nI (1 + zx_i7 ((nI i) - (nI 8)))))))]) hP hD [0, 1] [2] rfl rfl (by decide) (by decide) hk9 hFc hP1 hD1
      generalize H1 = H at hP hS ⊢
      have hP : va_P D vwCl [(h0, .inr (0, [.ref h1])), (h1, .inl (d1, 4, .inl (upd f (zx_i3 (-1)) (nI (1 + zx_i7 ((nI i) - (nI 8))))))), (h2, .inl (d2, 4, .inl (upd u 3 (nI (1 + i)))))] H := hP.sub [1, 2, 0] rfl
      have hD := hD.sub (ws' := [(h0, .inr (0, [.ref h1])), (h1, .inl (d1, 4, .inl (upd f (zx_i3 (-1)) (nI (1 + zx_i7 ((nI i) - (nI 8))))))), (h2, .inl (d2, 4, .inl (upd u 3 (nI (1 + i)))))]) [1, 2, 0] (by decide) rfl
      refine W.widen (k := 3) (n := 9) (by decide) (by decide) ?_
      have hf := zx_ok_upd 3 (1 + i) hf (by omega) (by omega)
      have hu := zx_ok_upd 3 (1 + i) hu (by omega) (by omega)
      rw [show zx_i3 (-1) = 3 by decide, zx_i7m i (by omega)] at hP hD
      generalize upd f 3 (nI (1 + i)) = f at hP hD hf
      generalize upd u 3 (nI (1 + i)) = u at hP hD hu
      generalize zx_up w 3 (1 + i) = w at hf hu
      refine lv_aload_n hx hb dL_law_131 rfl (lv_at hl 1 rfl) ?_
      refine lv_aload_n hx hb dL_law_132 rfl (lv_at hl 2 rfl) ?_
      refine lv_aload_n hx hb dL_law_133 rfl (lv_at hl 0 rfl) ?_
      refine lv_iload_n hx hb dL_law_134 rfl (lv_at hl 3 rfl) ?_
      refine zx_callR (W.runS (As := [.ref b, .int (nI i)]) (rest := [.ref h2, .ref h0]) ⟨hx, hb, hml, hown, hts⟩ (met_cell l b L xs i hL (by omega)) (va_cwS 2 hts (lw_S q23 q24 q3 q25) rfl rfl rfl (by decide +kernel) ⟨Nat.le_of_ble_eq_true rfl, Nat.le_of_ble_eq_true rfl⟩) (zx_preX (hX.kept (hS.2.1 b hbl hbA))) rfl rfl hl.1 rfl (lv_room (Nat.le_of_ble_eq_true rfl)) dL_law_135 ⟨Nat.le_of_ble_eq_true rfl, Nat.le_of_ble_eq_true rfl⟩) ?_
      refine zx_callR (W.runS (As := [.ref h0, .ref h2, .int ((zx_ce L xs i))]) (rest := []) ⟨hx, hb, hml, hown, hts⟩ (met_values l D h0 h1 h2 d1 d2 f u w hf hu (zx_ce L xs i)) (va_cwS 3 hts (lw_S q26 q27 q3 q28) rfl rfl rfl (by decide +kernel) ⟨Nat.le_of_ble_eq_true rfl, Nat.le_of_ble_eq_true rfl⟩) (zx_preS hP hK) rfl rfl hl.1 rfl (lv_room (Nat.le_of_ble_eq_true rfl)) dL_law_138 ⟨Nat.le_of_ble_eq_true rfl, Nat.le_of_ble_eq_true rfl⟩) ?_
      refine lv_if_eq (tgt := 162) hx hb dL_law_141 (by decide) (fun c_141 => absurd c_141 ((by decide))) (fun c_141 => ?_)
      refine lv_aload_n hx hb dL_law_144 rfl (lv_at hl 1 rfl) ?_
      refine lv_aload_n hx hb dL_law_145 rfl (lv_at hl 2 rfl) ?_
      refine lv_bipush (v := nI 7) hx hb dL_law_146 (by decide) ?_
      refine zx_callR (W.runS (As := [.ref h0, .ref h2, .int (nI 7)]) (rest := []) ⟨hx, hb, hml, hown, hts⟩ (met_values l D h0 h1 h2 d1 d2 f u w hf hu (nI 7)) (va_cwS 3 hts (lw_S q26 q27 q3 q28) rfl rfl rfl (by decide +kernel) ⟨Nat.le_of_ble_eq_true rfl, Nat.le_of_ble_eq_true rfl⟩) (zx_preS hP hK) rfl rfl hl.1 rfl (lv_room (Nat.le_of_ble_eq_true rfl)) dL_law_148 ⟨Nat.le_of_ble_eq_true rfl, Nat.le_of_ble_eq_true rfl⟩) ?_
      refine lv_if_eq (tgt := 162) hx hb dL_law_151 (by decide) (fun c_151 => absurd c_151 ((by decide))) (fun c_151 => ?_)
      refine lv_aload_n hx hb dL_law_154 rfl (lv_at hl 1 rfl) ?_
      refine lv_aload_n hx hb dL_law_155 rfl (lv_at hl 2 rfl) ?_
      refine zx_callR (W.runS (As := [.ref h0, .ref h2]) (rest := []) ⟨hx, hb, hml, hown, hts⟩ (met_holds l D h0 h1 h2 d1 d2 f u w hf hu) (va_cwS 2 hts (lw_S q72 q73 q3 q74) rfl rfl rfl (by decide +kernel) ⟨Nat.le_of_ble_eq_true rfl, Nat.le_of_ble_eq_true rfl⟩) (zx_preS hP hK) rfl rfl hl.1 rfl (lv_room (Nat.le_of_ble_eq_true rfl)) dL_law_156 ⟨Nat.le_of_ble_eq_true rfl, Nat.le_of_ble_eq_true rfl⟩) ?_
      refine lv_if_ne (tgt := 164) hx hb dL_law_159 (by decide) (fun c_159 => ?_) (fun c_159 => absurd c_159 ((by decide)))
      refine lv_iinc (v := nI (i + 1)) (lv' := [(3, .int (nI (i + 1))), (0, .ref b), (1, .ref h0), (2, .ref h2)]) hx hb dL_law_164 hl (k := 3) rfl (zx_inc rfl) (by decide) rfl (fun ls hl => ?_)
      refine lv_goto (tgt := 110) hx hb dL_law_167 (by decide) ?_
      exact ih (i + 1) f u w H locs (by omega) hf hu hP hD hS ls (lv_sub hl [1, 2, 3, 0] rfl)
  have K40 : ∀ (h0 h1 h2 : Nat) (d1 d2 : ClassId), va_K D vwCl [(d1, .int), (d2, .int)] s → ∀ (k i : Nat) (f u : Nat → Int32) (w : Nat → Nat) (H : Heap) (locs : List Loc), i + k = 96 → zx_ok f w → zx_ok u w → va_P D vwCl [(h0, .inr (0, [.ref h1])), (h1, .inl (d1, 4, .inl f)), (h2, .inl (d2, 4, .inl u))] H → va_D A [(h0, .inr (0, [.ref h1])), (h1, .inl (d1, 4, .inl f)), (h2, .inl (d2, 4, .inl u))] → va_S A s.heap H locs → ∀ (ls : Array Slot), lv_has ls 5 [(0, .ref b), (1, .ref h0), (2, .ref h2), (3, .int (nI i))] → W p l e room_1 s m #[Value.ref b] below meth c H locs 3 9 (lw_Z below #[Value.ref b] s) (F0 m 40 ls []) := by
    intro h0 h1 h2 d1 d2 hK k
    induction k with
    | zero =>
      intro i f u w H locs hi hf hu hP hD hS ls hl
      refine lv_iload_n hx hb dL_law_40 rfl (lv_at hl 3 rfl) ?_
      refine lv_bipush (v := nI 96) hx hb dL_law_41 (by decide) ?_
      refine lv_icmp_ge (tgt := 108) hx hb dL_law_43 (by decide) (fun c_43 => ?_) (fun c_43 => absurd ((nI_leI (a := 96) (b := i) (by omega) (by omega)).mpr (by omega)) c_43)
      refine lv_iconst (v := nI 0) hx hb dL_law_108 (by decide) ?_
      refine lv_istore_n (lv' := [(3, .int (nI 0)), (0, .ref b), (1, .ref h0), (2, .ref h2)]) hx hb dL_law_109 rfl hl (by decide) rfl (fun ls hl => ?_)
      exact K110 h0 h1 h2 d1 d2 hK 8 0 f u w H locs rfl hf hu hP hD hS ls (lv_sub hl [1, 2, 3, 0] rfl)
    | succ k ih =>
      intro i f u w H locs hi hf hu hP hD hS ls hl
      refine lv_iload_n hx hb dL_law_40 rfl (lv_at hl 3 rfl) ?_
      refine lv_bipush (v := nI 96) hx hb dL_law_41 (by decide) ?_
      refine lv_icmp_ge (tgt := 108) hx hb dL_law_43 (by decide) (fun c_43 => absurd ((nI_leI (a := 96) (b := i) (by omega) (by omega)).mp c_43) (by omega)) (fun c_43 => ?_)
      refine lv_aload_n hx hb dL_law_46 rfl (lv_at hl 0 rfl) ?_
      refine lv_iload_n hx hb dL_law_47 rfl (lv_at hl 3 rfl) ?_
      refine zx_callR (W.runS (As := [.ref b, .int (nI i)]) (rest := []) ⟨hx, hb, hml, hown, hts⟩ (met_cell l b L xs i hL (by omega)) (va_cwS 2 hts (lw_S q23 q24 q3 q25) rfl rfl rfl (by decide +kernel) ⟨Nat.le_of_ble_eq_true rfl, Nat.le_of_ble_eq_true rfl⟩) (zx_preX (hX.kept (hS.2.1 b hbl hbA))) rfl rfl hl.1 rfl (lv_room (Nat.le_of_ble_eq_true rfl)) dL_law_48 ⟨Nat.le_of_ble_eq_true rfl, Nat.le_of_ble_eq_true rfl⟩) ?_
      refine lv_istore (lv' := [(4, .int ((zx_ce L xs i))), (0, .ref b), (1, .ref h0), (2, .ref h2), (3, .int (nI i))]) hx hb dL_law_51 hl (by decide) rfl (fun ls hl => ?_)
      refine lv_aload_n hx hb dL_law_53 rfl (lv_at hl 2 rfl) ?_
      refine lv_aload_n hx hb dL_law_54 rfl (lv_at hl 3 rfl) ?_
      refine lv_iload hx hb dL_law_55 (lv_at hl 0 rfl) ?_
      have hPc := hP.sub (ws' := [(h0, .inr (0, [.ref h1])), (h1, .inl (d1, 4, .inl f)), (h2, .inl (d2, 4, .inl u))]) [0, 1, 2] rfl
      have hDc := hD.sub (ws' := [(h0, .inr (0, [.ref h1])), (h1, .inl (d1, 4, .inl f)), (h2, .inl (d2, 4, .inl u))]) [0, 1, 2] (by decide) rfl
      have hKc := hK.sub (tys' := [(d1, .int), (d2, .int)]) [0, 1] rfl
      have hFc := va_free (wc := [(h0, .inr (0, [.ref h1])), (h1, .inl (d1, 4, .inl f)), (h2, .inl (d2, 4, .inl u))]) hD hS hA [0, 1, 2] rfl
      refine va_callv (va_runS (As := [.ref h0, .ref h2, .int ((zx_ce L xs i))]) (rest := []) ⟨hx, hb, hml, hown, hts⟩ (met_told l D h0 h1 h2 H.size d1 d2 f u w hf hu (zx_ce L xs i)) (va_cwS 3 hts (lw_S q79 q80 q3 q81) rfl rfl rfl (by decide +kernel) ⟨Nat.le_of_ble_eq_true rfl, Nat.le_of_ble_eq_true rfl⟩) (zx_preSw hPc hKc hDc) rfl rfl hl.1 rfl (lv_room (Nat.le_of_ble_eq_true rfl)) dL_law_57 ⟨Nat.le_of_ble_eq_true rfl, Nat.le_of_ble_eq_true rfl⟩) hS (fun q _ h => hFc q h) hFc (fun u9 t9 H1 locs ht9 hvm9 hw9 hB9 hz9 hk9 hS => ?_)
      obtain ⟨f', u', w', ⟨hP1, hK1, hD1⟩, hf', hu'⟩ := hB9
      rw [ht9] at hP1
      have hK1 := va_K.moved hvm9.symm hK1
      obtain ⟨hP, hD⟩ := va_join (wr := []) (w1 := [(h0, .inr (0, [.ref h1])), (h1, .inl (d1, 4, .inl f')), (h2, .inl (d2, 4, .inl u'))]) hP hD [0, 1, 2] [] rfl rfl (by decide) (by decide) hk9 hFc hP1 hD1
      generalize H1 = H at hP hS ⊢
      have hP : va_P D vwCl [(h0, .inr (0, [.ref h1])), (h1, .inl (d1, 4, .inl f')), (h2, .inl (d2, 4, .inl u'))] H := hP
      refine W.widen (k := 3) (n := 9) (by decide) (by decide) ?_
      have hf := hf'
      have hu := hu'
      generalize f' = f at hP hD hf
      generalize u' = u at hP hD hu
      generalize w' = w at hf hu
      refine lv_aload_n hx hb dL_law_60 rfl (lv_at hl 2 rfl) ?_
      refine lv_aload_n hx hb dL_law_61 rfl (lv_at hl 3 rfl) ?_
      refine lv_iload hx hb dL_law_62 (lv_at hl 0 rfl) ?_
      refine lv_bipush (v := nI 14) hx hb dL_law_64 (by decide) ?_
      refine lv_ishr hx hb dL_law_66 ?_
      refine zx_callR (W.runS (As := [.ref h0, .ref h2, .int (((zx_ce L xs i)) >>> ((nI 14) &&& 31))]) (rest := []) ⟨hx, hb, hml, hown, hts⟩ (met_values l D h0 h1 h2 d1 d2 f u w hf hu ((zx_ce L xs i) >>> ((nI 14) &&& 31))) (va_cwS 3 hts (lw_S q26 q27 q3 q28) rfl rfl rfl (by decide +kernel) ⟨Nat.le_of_ble_eq_true rfl, Nat.le_of_ble_eq_true rfl⟩) (zx_preS hP hK) rfl rfl hl.1 rfl (lv_room (Nat.le_of_ble_eq_true rfl)) dL_law_67 ⟨Nat.le_of_ble_eq_true rfl, Nat.le_of_ble_eq_true rfl⟩) ?_
      refine lv_if_eq (tgt := 100) hx hb dL_law_70 (by decide) (fun c_70 => absurd c_70 ((by decide))) (fun c_70 => ?_)
      refine lv_aload_n hx hb dL_law_73 rfl (lv_at hl 2 rfl) ?_
      refine lv_aload_n hx hb dL_law_74 rfl (lv_at hl 3 rfl) ?_
      refine lv_iconst (v := nI 0) hx hb dL_law_75 (by decide) ?_
      refine zx_callR (W.runS (As := [.ref h0, .ref h2, .int (nI 0)]) (rest := []) ⟨hx, hb, hml, hown, hts⟩ (met_values l D h0 h1 h2 d1 d2 f u w hf hu (nI 0)) (va_cwS 3 hts (lw_S q26 q27 q3 q28) rfl rfl rfl (by decide +kernel) ⟨Nat.le_of_ble_eq_true rfl, Nat.le_of_ble_eq_true rfl⟩) (zx_preS hP hK) rfl rfl hl.1 rfl (lv_room (Nat.le_of_ble_eq_true rfl)) dL_law_76 ⟨Nat.le_of_ble_eq_true rfl, Nat.le_of_ble_eq_true rfl⟩) ?_
      refine lv_if_eq (tgt := 100) hx hb dL_law_79 (by decide) (fun c_79 => absurd c_79 ((by decide))) (fun c_79 => ?_)
      refine lv_aload_n hx hb dL_law_82 rfl (lv_at hl 2 rfl) ?_
      refine lv_aload_n hx hb dL_law_83 rfl (lv_at hl 3 rfl) ?_
      refine lv_iload hx hb dL_law_84 (lv_at hl 0 rfl) ?_
      refine zx_callR (W.runS (As := [.ref h0, .ref h2, .int ((zx_ce L xs i))]) (rest := []) ⟨hx, hb, hml, hown, hts⟩ (met_values l D h0 h1 h2 d1 d2 f u w hf hu (zx_ce L xs i)) (va_cwS 3 hts (lw_S q26 q27 q3 q28) rfl rfl rfl (by decide +kernel) ⟨Nat.le_of_ble_eq_true rfl, Nat.le_of_ble_eq_true rfl⟩) (zx_preS hP hK) rfl rfl hl.1 rfl (lv_room (Nat.le_of_ble_eq_true rfl)) dL_law_86 ⟨Nat.le_of_ble_eq_true rfl, Nat.le_of_ble_eq_true rfl⟩) ?_
      refine lv_if_eq (tgt := 100) hx hb dL_law_89 (by decide) (fun c_89 => absurd c_89 ((by decide))) (fun c_89 => ?_)
      refine lv_aload_n hx hb dL_law_92 rfl (lv_at hl 2 rfl) ?_
      refine lv_aload_n hx hb dL_law_93 rfl (lv_at hl 3 rfl) ?_
      refine zx_callR (W.runS (As := [.ref h0, .ref h2]) (rest := []) ⟨hx, hb, hml, hown, hts⟩ (met_holds l D h0 h1 h2 d1 d2 f u w hf hu) (va_cwS 2 hts (lw_S q72 q73 q3 q74) rfl rfl rfl (by decide +kernel) ⟨Nat.le_of_ble_eq_true rfl, Nat.le_of_ble_eq_true rfl⟩) (zx_preS hP hK) rfl rfl hl.1 rfl (lv_room (Nat.le_of_ble_eq_true rfl)) dL_law_94 ⟨Nat.le_of_ble_eq_true rfl, Nat.le_of_ble_eq_true rfl⟩) ?_
      refine lv_if_ne (tgt := 102) hx hb dL_law_97 (by decide) (fun c_97 => ?_) (fun c_97 => absurd c_97 ((by decide)))
      refine lv_iinc (v := nI (i + 1)) (lv' := [(3, .int (nI (i + 1))), (4, .int ((zx_ce L xs i))), (0, .ref b), (1, .ref h0), (2, .ref h2)]) hx hb dL_law_102 hl (k := 4) rfl (zx_inc rfl) (by decide) rfl (fun ls hl => ?_)
      refine lv_goto (tgt := 40) hx hb dL_law_105 (by decide) ?_
      exact ih (i + 1) f u w H locs (by omega) hf hu hP hD hS ls (lv_sub hl [2, 3, 4, 0] rfl)
  refine va_new (D := D) (ci := 0) (fs := [.null]) (C := RX1) (T := TX1) (N := 1) hx hb hts in_X1 tyX1 tyX1_ok hown (hts _ q6) (hts _ q7) (hts _ q4) hK hP hD hS hA rfl (fun j hj => by rcases (show j = 0 by omega) with rfl; rfl) (Nat.le_of_ble_eq_true rfl) (Nat.le_of_ble_eq_true rfl) dL_law_0 (fun h0 H hP hD hS => ?_)
  have hP : va_P D vwCl [(h0, .inr (0, [.null]))] H := hP
  have hD : va_D A [(h0, .inr (0, [.null]))] := hD
  refine W.widen (k := 1) (n := 1) (by decide) (by decide) ?_
  refine lv_dup hx hb dL_law_3 rfl ?_
  have hPc := hP.sub (ws' := [(h0, .inr (0, [.null]))]) [0] rfl
  have hDc := hD.sub (ws' := [(h0, .inr (0, [.null]))]) [0] (by decide) rfl
  have hKc := hK.sub (tys' := []) [] rfl
  have hFc := va_free (wc := [(h0, .inr (0, [.null]))]) hD hS hA [0] rfl
  refine va_callv (va_runI (As := []) (rest := [.ref h0]) ⟨hx, hb, hml, hown, hts⟩ (met_dinit l D h0 H.size) (cwI 0 hts (lw_meth q10) rfl rfl rfl (hts _ q4) (hts _ q8) (hts _ q9) rfl (by decide +kernel) ⟨Nat.le_of_ble_eq_true rfl, Nat.le_of_ble_eq_true rfl⟩) (zx_preSw hPc hKc hDc) rfl rfl hl.1 rfl (lv_room (Nat.le_of_ble_eq_true rfl)) dL_law_4 ⟨Nat.le_of_ble_eq_true rfl, Nat.le_of_ble_eq_true rfl⟩) hS (fun q _ h => hFc q h) hFc (fun u9 t9 H1 locs ht9 hvm9 hw9 hB9 hz9 hk9 hS => ?_)
  obtain ⟨h1, d1, f, ⟨hP1, hK1, hD1⟩, hf⟩ := hB9
  rw [ht9] at hP1
  have hK1 := va_K.moved hvm9.symm hK1
  obtain ⟨hP, hD⟩ := va_join (wr := []) (w1 := [(h0, .inr (0, [.ref h1])), (h1, .inl (d1, 4, .inl f))]) hP hD [0] [] rfl rfl (by decide) (by decide) hk9 hFc hP1 hD1
  have hK := (hK.sub (tys' := []) [] rfl).app hK1
  generalize H1 = H at hP hS ⊢
  have hP : va_P D vwCl [(h0, .inr (0, [.ref h1])), (h1, .inl (d1, 4, .inl f))] H := hP
  refine W.widen (k := 2) (n := 5) (by decide) (by decide) ?_
  have hK : va_K D vwCl [(d1, .int)] s := hK
  refine lv_astore_n (lv' := [(1, .ref h0), (0, .ref b)]) hx hb dL_law_7 rfl hl (by decide) rfl (fun ls hl => ?_)
  refine lv_iconst (v := nI 4) hx hb dL_law_8 (by decide) ?_
  refine va_newa (atype := .int) (ty := .int) (a0 := (4, .inl (fun _ => 0))) (N' := 4) hx hb (hts _ q18) rfl hK hP hD hS hA (fun _ => rfl) (by decide) (by decide) (by decide) (Nat.le_of_ble_eq_true rfl) (Nat.le_of_ble_eq_true rfl) dL_law_9 (fun h2 d2 H hK hP hD hS => ?_)
  have hP : va_P D vwCl [(h0, .inr (0, [.ref h1])), (h1, .inl (d1, 4, .inl f)), (h2, .inl (d2, 4, .inl (fun _ => 0)))] H := hP
  have hD : va_D A [(h0, .inr (0, [.ref h1])), (h1, .inl (d1, 4, .inl f)), (h2, .inl (d2, 4, .inl (fun _ => 0)))] := hD
  have hK : va_K D vwCl [(d1, .int), (d2, .int)] s := hK
  refine W.widen (k := 3) (n := 9) (by decide) (by decide) ?_
  refine lv_dup hx hb dL_law_11 rfl ?_
  refine lv_iconst (v := nI 0) hx hb dL_law_12 (by decide) ?_
  refine lv_iconst (v := nI 1) hx hb dL_law_13 (by decide) ?_
  refine va_iast hx hb hK hP hD hS 2 1 rfl rfl (vp_in_nI (by omega) (by decide)) dL_law_14 (fun H locs hP hD hS => ?_)
  rw [nI_clamp (show 0 < 2 ^ 31 by omega)] at hP hD
  have hP : va_P D vwCl [(h0, .inr (0, [.ref h1])), (h1, .inl (d1, 4, .inl f)), (h2, .inl (d2, 4, .inl (upd (fun _ => 0) 0 (nI 1))))] H := hP
  have hD : va_D A [(h0, .inr (0, [.ref h1])), (h1, .inl (d1, 4, .inl f)), (h2, .inl (d2, 4, .inl (upd (fun _ => 0) 0 (nI 1))))] := hD
  refine lv_dup hx hb dL_law_15 rfl ?_
  refine lv_iconst (v := nI 1) hx hb dL_law_16 (by decide) ?_
  refine lv_iconst (v := nI 1) hx hb dL_law_17 (by decide) ?_
  refine va_iast hx hb hK hP hD hS 2 1 rfl rfl (vp_in_nI (by omega) (by decide)) dL_law_18 (fun H locs hP hD hS => ?_)
  rw [nI_clamp (show 1 < 2 ^ 31 by omega)] at hP hD
  have hP : va_P D vwCl [(h0, .inr (0, [.ref h1])), (h1, .inl (d1, 4, .inl f)), (h2, .inl (d2, 4, .inl (upd (upd (fun _ => 0) 0 (nI 1)) 1 (nI 1))))] H := hP
  have hD : va_D A [(h0, .inr (0, [.ref h1])), (h1, .inl (d1, 4, .inl f)), (h2, .inl (d2, 4, .inl (upd (upd (fun _ => 0) 0 (nI 1)) 1 (nI 1))))] := hD
  refine lv_dup hx hb dL_law_19 rfl ?_
  refine lv_iconst (v := nI 2) hx hb dL_law_20 (by decide) ?_
  refine lv_iconst (v := nI 1) hx hb dL_law_21 (by decide) ?_
  refine va_iast hx hb hK hP hD hS 2 1 rfl rfl (vp_in_nI (by omega) (by decide)) dL_law_22 (fun H locs hP hD hS => ?_)
  rw [nI_clamp (show 2 < 2 ^ 31 by omega)] at hP hD
  have hP : va_P D vwCl [(h0, .inr (0, [.ref h1])), (h1, .inl (d1, 4, .inl f)), (h2, .inl (d2, 4, .inl (upd (upd (upd (fun _ => 0) 0 (nI 1)) 1 (nI 1)) 2 (nI 1))))] H := hP
  have hD : va_D A [(h0, .inr (0, [.ref h1])), (h1, .inl (d1, 4, .inl f)), (h2, .inl (d2, 4, .inl (upd (upd (upd (fun _ => 0) 0 (nI 1)) 1 (nI 1)) 2 (nI 1))))] := hD
  refine lv_dup hx hb dL_law_23 rfl ?_
  refine lv_iconst (v := nI 3) hx hb dL_law_24 (by decide) ?_
  refine lv_iconst (v := nI 1) hx hb dL_law_25 (by decide) ?_
  refine va_iast hx hb hK hP hD hS 2 1 rfl rfl (vp_in_nI (by omega) (by decide)) dL_law_26 (fun H locs hP hD hS => ?_)
  rw [nI_clamp (show 3 < 2 ^ 31 by omega)] at hP hD
  have hP : va_P D vwCl [(h0, .inr (0, [.ref h1])), (h1, .inl (d1, 4, .inl f)), (h2, .inl (d2, 4, .inl (upd (upd (upd (upd (fun _ => 0) 0 (nI 1)) 1 (nI 1)) 2 (nI 1)) 3 (nI 1))))] H := hP
  have hD : va_D A [(h0, .inr (0, [.ref h1])), (h1, .inl (d1, 4, .inl f)), (h2, .inl (d2, 4, .inl (upd (upd (upd (upd (fun _ => 0) 0 (nI 1)) 1 (nI 1)) 2 (nI 1)) 3 (nI 1))))] := hD
  refine lv_astore_n (lv' := [(2, .ref h2), (1, .ref h0), (0, .ref b)]) hx hb dL_law_27 rfl hl (by decide) rfl (fun ls hl => ?_)
  obtain ⟨u, hue⟩ : ∃ u : Nat → Int32, u = (upd (upd (upd (upd (fun _ => 0) 0 (nI 1)) 1 (nI 1)) 2 (nI 1)) 3 (nI 1)) := ⟨_, rfl⟩
  have hu : zx_ok u (fun _ => 1) := by rw [hue]; exact zx_ok_ones
  rw [← hue] at hP hD
  obtain ⟨w, hwe⟩ : ∃ w : Nat → Nat, w = (fun _ => 1) := ⟨_, rfl⟩
  rw [← hwe] at hf hu
  refine lv_aload_n hx hb dL_law_28 rfl (lv_at hl 1 rfl) ?_
  refine lv_aload_n hx hb dL_law_29 rfl (lv_at hl 0 rfl) ?_
  refine zx_callR (W.runS (As := [.ref h0, .ref h2]) (rest := []) ⟨hx, hb, hml, hown, hts⟩ (met_holds l D h0 h1 h2 d1 d2 f u w hf hu) (va_cwS 2 hts (lw_S q72 q73 q3 q74) rfl rfl rfl (by decide +kernel) ⟨Nat.le_of_ble_eq_true rfl, Nat.le_of_ble_eq_true rfl⟩) (zx_preS hP hK) rfl rfl hl.1 rfl (lv_room (Nat.le_of_ble_eq_true rfl)) dL_law_30 ⟨Nat.le_of_ble_eq_true rfl, Nat.le_of_ble_eq_true rfl⟩) ?_
  refine lv_if_ne (tgt := 38) hx hb dL_law_33 (by decide) (fun c_33 => ?_) (fun c_33 => absurd c_33 ((by decide)))
  refine lv_iconst (v := nI 0) hx hb dL_law_38 (by decide) ?_
  refine lv_istore_n (lv' := [(3, .int (nI 0)), (2, .ref h2), (1, .ref h0), (0, .ref b)]) hx hb dL_law_39 rfl hl (by decide) rfl (fun ls hl => ?_)
  exact K40 h0 h1 h2 d1 d2 hK 96 0 f u w H _ rfl hf hu hP hD hS ls (lv_sub hl [3, 2, 1, 0] rfl)
set_option maxHeartbeats 4000000 in
theorem lw_walk (l : Launch) (hflags : l.flags = flags0) (b : Addr) (xs : List Int32) : MetFree l x (headSpec (Jvm.Cond.code x code maxLocals ret :: tables_1) room_1) (lw_P b xs) (fun _ _ _ _ _ => True) lw_Q := by
  refine MetFree.of_bodyS (code := code) (maxLocals := maxLocals) (ret := ret) (by decide) ?_ ?_
  · intro args s m h hn
    obtain ⟨meth, c, h1, h2, h3, h4, h5, h6, -, -⟩ := Cond.code_spec hn (atoms_spec (ws := Jvm.Cond.code x code maxLocals ret :: tables_1) h _ List.mem_cons_self)
    exact ⟨meth, c, h1, h2, h3, h4, h5, h6⟩
  · intro p e s m args below meth c s₁ B hml0 hP _
    obtain ⟨rfl, hx, hbd, hgv⟩ := hP
    obtain ⟨scr, harrAt, hlist, hof, hsmall⟩ := hx
    obtain ⟨hcb, hkn, -, -⟩ := State.arrayAt?_spec harrAt
    have hown : s.vm.findClass R_law = some m.cls := findClass_of_methodNamed B.named
    have hts0 : ∀ c ∈ (Jvm.Cond.code x code maxLocals ret :: tables_1), c.before #[Value.ref b] s = true := atoms_spec (ws := Jvm.Cond.code x code maxLocals ret :: tables_1) B.pre
    have hts : ∀ w ∈ lw_tbl, w.before #[Value.ref b] s = true := k2_hts_sels lw_privs (fun w hw => hts0 w (List.mem_cons_of_mem _ hw)) lw_privs_ok
    have hml : c.maxLocals = 5 := B.maxLocals_eq (hts0 _ List.mem_cons_self)
    have X₀ : Stand p l e room_1 s m #[Value.ref b] below meth c s₁ [] 0 0 := Stand.of_body B
    have hh0 : s₁.heap = s.heap := by rw [B.state]; rfl
    have hsz : scr.slots.size = xs.length := by rw [← Array.length_toList, hlist, List.length_map]
    have hval : ∀ j : Nat, j < xs.length → scr.slots[j]? = some (.int (xs.getD j 0)) := fun j hj => by
      rw [← Array.getElem?_toList, hlist]
      simp [hj]
    have hbl : b < s.heap.size := (Array.getElem?_eq_some_iff.mp hcb).1
    have hX : va_X b xs.length (fun j => xs.getD j 0) s s.heap := ⟨scr, hcb, hof, hkn, hsz, hval⟩
    have K : W p l e room_1 s m #[Value.ref b] below meth c s₁.heap [] 0 0 (lw_Z below #[Value.ref b] s) (entryFrame m ([Value.ref b] : List Value).toArray 5) := by
      rw [hh0]
      exact whole_start l hflags hbd ⟨B.exec, B.bytes, B.returns, hml, hown, hts, hX, hbl, B.notSynchronized, hgv⟩
    obtain ⟨t, a1, o, b1, b2, b3⟩ := K s₁ rfl X₀
    exact ⟨t, o, a1, b1, b2, b3⟩
theorem lw_pre_spec {args : Array Value} {s : State} (h : (Jvm.Cond.and given_1 narrow_1).before args s = true) (hr : rest_1_c.before args s = true) : ∃ (b : Addr) (xs : List Int32), lw_P b xs args s := by
  have hs := flat_of_before _ h
  have hq := flat_of_before _ hr
  have hc : (Cond.count 1).before args s = true := hs _ (by decide +kernel)
  have harr : (Cond.arrayOf (.arg 0) .int).before args s = true := hs _ (by decide +kernel)
  have hle : (Cond.le (.length (.arg 0)) (.int 96)).before args s = true := hs _ (by decide +kernel)
  have hlen : (Cond.isInt (.length (.arg 0))).before args s = true := hq _ (by decide +kernel)
  have hall : (Cond.all (.arg 0) (.isInt (.elem (.arg 0) (.index 0)))).before args s = true := hq _ (by decide +kernel)
  obtain ⟨b, xs, hb, hx⟩ := State.ints_of_pre rfl harr hlen hall
  have hsm : xs.length < 2 ^ 31 := hx.choose_spec.2.2.2
  have hev : (Term.length (.arg 0)).eval args s none [] s = some (.int xs.length.toInt32) := hx.length_eval hb
  have hv := Cond.le_ints hev (show (Term.int 96).eval args s none [] s = some (.int 96) from rfl)
  have hd : xs.length.toInt32 ≤ 96 := by
    simpa [Cond.before, Cond.holds, hv] using hle
  have hN : xs.length ≤ 96 := (Int32.ofNat_le_ofNat hsm (by decide)).mp (show Int32.ofNat xs.length ≤ Int32.ofNat 96 from hd)
  exact ⟨b, xs, Cond.one_arg hc (show args[0]? = some (.ref b) from hb), hx, hN, h⟩
theorem lw_comes (l : Launch) (hflags : l.flags = flags0) : Comes l x (Jvm.Cond.code x code maxLocals ret :: tables_1) room_1 (fun tb e args s => Calls_1 tb e args s ∧ rest_1 tb e args s ∧ Pre_1 tb e args s)
    (fun _ _ args s o t => lw_Q args s o t) := by
  intro p e ha hc hk s m args below hf hfit hheap happ hpre
  obtain ⟨b, xs, hP⟩ := lw_pre_spec hpre.2.2 hpre.2.1
  obtain ⟨k, o, h1, h2, h3, hQ⟩ := lw_walk l hflags b xs p e ha hc hk s m args below hf ((Spec.applies_iff_loose hf).mp happ).1 hP trivial
  exact ⟨k, o, h1, h2, h3, hQ⟩
theorem lw_frame {s t : State} {o : Outcome} {args : Array Value} (h : Framed s o t [] 600000 7290000) :
    Framed s o t (fieldLocs frame_1_writes args s ++ arrayLocs frame_1_arrays args s ++ staticLocs frame_1_statics s) 600000 7290000 := h
theorem lw_limb (L : Cond) (hL : ∀ (args : Array Value) (s t : State), L.after args s (.returned (some (.int 1))) t = true) :
    ArmFor flags0 classFile x code maxLocals ret World_1 tables_1 room_1 Calls_1 rest_1 Pre_1
      (fun tb e a s o t => postC L tb e a s o t ∧ Framed s o t (fieldLocs frame_1_writes a s ++ arrayLocs frame_1_arrays a s ++ staticLocs frame_1_statics s) 600000 7290000) := by
  intro l hflags _ _ p e ha hc hk s m args below hf hfit hheap happ hpre
  obtain ⟨k, o, h1, h2, h3, rfl, hF⟩ := lw_comes l hflags p e ha hc hk s m args below hf hfit hheap happ hpre
  exact ⟨k, _, h1, h2, h3, hL args s _, lw_frame hF⟩
theorem i_vc : Claimed_1_1 ∧ Claimed_1_2 := ⟨lw_limb limb_1_1 (fun args s t => by simp [limb_1_1, Cond.after, Cond.holds, Cond.value]), lw_limb limb_1_2 (fun args s t => Cond.after_iff.mpr (by
  first | (rw [show limb_1_2 = Cond.eq .result (.int 1) from rfl, Cond.eq_ints (x := 1) (y := 1) rfl rfl]; simp; done) | (simp [limb_1_2, Cond.value, Term.eval]; done)))⟩
end
