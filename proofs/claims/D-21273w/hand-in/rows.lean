section
-- ===== PART A: goes FIRST, ahead of the names: the tables' words, and 'selects' of the private methods out of them =====
/-- a private method of a class that the tables say can be made, by its rows of tables_1 -/
def lw_okq (q : MethodName × Nat) : Prop := (q.1.cls ≠ "java/lang/invoke/MethodHandle" ∧ q.1.cls ≠ "java/lang/invoke/VarHandle") ∧ Cond.instantiable q.1.cls q.2 ∈ tables_1 ∧ Cond.privateMethod q.1 ∈ tables_1 ∧ Cond.instanceMethod q.1 ∈ tables_1
set_option maxRecDepth 100000
theorem lw_p0 : lw_okq (⟨"WireText", "word", "(II)V"⟩, 2) := ⟨⟨by decide +kernel, by decide +kernel⟩, List.mem_of_getElem? (i := 9) rfl, List.mem_of_getElem? (i := 29) rfl, List.mem_of_getElem? (i := 30) rfl⟩
theorem lw_p1 : lw_okq (⟨"WireText", "from", "(I)I"⟩, 2) := ⟨⟨by decide +kernel, by decide +kernel⟩, List.mem_of_getElem? (i := 9) rfl, List.mem_of_getElem? (i := 37) rfl, List.mem_of_getElem? (i := 38) rfl⟩
theorem lw_p2 : lw_okq (⟨"WireText", "count", "(II)I"⟩, 2) := ⟨⟨by decide +kernel, by decide +kernel⟩, List.mem_of_getElem? (i := 9) rfl, List.mem_of_getElem? (i := 50) rfl, List.mem_of_getElem? (i := 51) rfl⟩
theorem lw_p3 : lw_okq (⟨"java/lang/Throwable", "fillInStackTrace", "(I)Ljava/lang/Throwable;"⟩, 6) := ⟨⟨by decide +kernel, by decide +kernel⟩, List.mem_of_getElem? (i := 96) rfl, List.mem_of_getElem? (i := 94) rfl, List.mem_of_getElem? (i := 95) rfl⟩
def lw_privs_1 : List (MethodName × Nat) := [(⟨"WireText", "word", "(II)V"⟩, 2), (⟨"WireText", "from", "(I)I"⟩, 2), (⟨"WireText", "count", "(II)I"⟩, 2), (⟨"java/lang/Throwable", "fillInStackTrace", "(I)Ljava/lang/Throwable;"⟩, 6)]
theorem lw_r1 : ∀ q ∈ lw_privs_1, lw_okq q := List.forall_mem_cons.mpr ⟨lw_p0, List.forall_mem_cons.mpr ⟨lw_p1, List.forall_mem_cons.mpr ⟨lw_p2, List.forall_mem_cons.mpr ⟨lw_p3, fun _ h => absurd h List.not_mem_nil⟩⟩⟩⟩
def lw_privs : List (MethodName × Nat) := lw_privs_1
def lw_tbl : List Cond := k2_sels lw_privs ++ tables_1
theorem lw_privs_ok : ∀ q ∈ lw_privs, lw_okq q := lw_r1
-- ===== ONE list of words for every method: the tables' words that hold all through a run =====
def lw_all : List Cond := lw_tbl.filter goodWord
/-- a word of the tables by its place: claim/WORDS.tsv -/
theorem lw_w {w : Cond} (i : Nat) (h : lw_tbl[i]? = some w) (g : goodWord w = true) : w ∈ lw_all := List.mem_filter.mpr ⟨List.mem_of_getElem? h, g⟩
theorem lw_all_tbl {w : Cond} (h : w ∈ lw_all) : w ∈ lw_tbl := (List.mem_filter.mp h).1
theorem lw_self : GoodIn lw_all lw_all := fun w h => ⟨h, good_of_word (List.mem_filter.mp h).2⟩
/-- a class's field words, by their places -/
theorem lw_in (ws : List Cond) (ps : List Nat) (hp : ws = ps.filterMap (fun i => lw_tbl[i]?)) (hg : ws.all goodWord = true) : ∀ w ∈ ws, w ∈ lw_all := by
  intro w h
  have h1 := List.all_eq_true.mp hg w h
  rw [hp] at h
  obtain ⟨i, -, hi⟩ := List.mem_filterMap.mp h
  exact lw_w i hi h1
/-- the words of a contract for the method y with code b, L locals, answer r -/
abbrev ws_ (y : MethodName) (b : ByteArray) (L : Nat) (r : Option FieldType) : List Cond := Cond.code y b L r :: lw_all
theorem lw_meth {y : MethodName} {b : ByteArray} {L : Nat} {r : Option FieldType} (h : Cond.code y b L r ∈ lw_all) : GoodIn lw_all (ws_ y b L r) := by
  intro w hw
  rcases List.mem_cons.mp hw with e | e
  · rw [e]
    exact lw_self _ h
  · exact lw_self _ e
theorem lw_app {a c : List Cond} (ha : ∀ w ∈ a, w ∈ lw_all) (hc : GoodIn lw_all c) : GoodIn lw_all (a ++ c) := by
  intro w hw
  rcases List.mem_append.mp hw with e | e
  · exact lw_self w (ha w e)
  · exact hc w e
/-- what a call through an object asks: cwV n hts (lw_V ..) -/
theorem lw_V {own : String} {idx : Nat} {C : String} {y : MethodName} {b : ByteArray} {L : Nat} {r : Option FieldType} (h1 : Cond.methodLink own idx y ∈ lw_all) (h2 : Cond.instanceMethod y ∈ lw_all) (h3 : Cond.selects C y y ∈ lw_all) (h4 : Cond.initialized C ∈ lw_all) (h5 : Cond.code y b L r ∈ lw_all) : GoodIn lw_all (wsV own idx C y (ws_ y b L r)) := by
  refine lw_app ?_ (lw_meth h5)
  intro w hw
  simp only [List.mem_cons, List.not_mem_nil, or_false] at hw
  rcases hw with e | e | e | e
  · rw [e]; exact h1
  · rw [e]; exact h2
  · rw [e]; exact h3
  · rw [e]; exact h4
/-- what a static call asks: va_cwS n hts (lw_S ..) -/
theorem lw_S {own : String} {idx : Nat} {y : MethodName} {b : ByteArray} {L : Nat} {r : Option FieldType} (h1 : Cond.methodLink own idx y ∈ lw_all) (h2 : Cond.static y ∈ lw_all) (h3 : Cond.initialized y.cls ∈ lw_all) (h4 : Cond.code y b L r ∈ lw_all) : GoodIn lw_all (va_wsS own idx y (ws_ y b L r)) := by
  refine lw_app ?_ (lw_meth h4)
  intro w hw
  simp only [List.mem_cons, List.not_mem_nil, or_false] at hw
  rcases hw with e | e | e
  · rw [e]; exact h1
  · rw [e]; exact h2
  · rw [e]; exact h3
/-- the words of a contract for a method WITH HANDLERS (hh: its table) -/
abbrev wsW_ (y : MethodName) (b : ByteArray) (L : Nat) (r : Option FieldType) (hh : List (Nat × Nat × Nat × Nat)) : List Cond := Cond.codeWith y b L r hh :: lw_all
theorem lw_methW {y : MethodName} {b : ByteArray} {L : Nat} {r : Option FieldType} {hh : List (Nat × Nat × Nat × Nat)} (h : Cond.codeWith y b L r hh ∈ lw_all) : GoodIn lw_all (wsW_ y b L r hh) := by
  intro w hw
  rcases List.mem_cons.mp hw with e | e
  · rw [e]
    exact lw_self _ h
  · exact lw_self _ e
/-- any list of words by their places (lw_in), good -/
theorem lw_good {ws : List Cond} (h : ∀ w ∈ ws, w ∈ lw_all) : GoodIn lw_all ws := fun w hw => lw_self w (h w hw)
/-- what a call of a method with handlers asks: vx_cwVW n hts (lw_VW ..), vx_cwSW n hts (lw_SW ..) -/
theorem lw_VW {own : String} {idx : Nat} {C : String} {y : MethodName} {b : ByteArray} {L : Nat} {r : Option FieldType} {hh : List (Nat × Nat × Nat × Nat)} (h1 : Cond.methodLink own idx y ∈ lw_all) (h2 : Cond.instanceMethod y ∈ lw_all) (h3 : Cond.selects C y y ∈ lw_all) (h4 : Cond.initialized C ∈ lw_all) (h5 : Cond.codeWith y b L r hh ∈ lw_all) : GoodIn lw_all (wsV own idx C y (wsW_ y b L r hh)) := by
  refine lw_app ?_ (lw_methW h5)
  intro w hw
  simp only [List.mem_cons, List.not_mem_nil, or_false] at hw
  rcases hw with e | e | e | e
  · rw [e]; exact h1
  · rw [e]; exact h2
  · rw [e]; exact h3
  · rw [e]; exact h4
theorem lw_SW {own : String} {idx : Nat} {y : MethodName} {b : ByteArray} {L : Nat} {r : Option FieldType} {hh : List (Nat × Nat × Nat × Nat)} (h1 : Cond.methodLink own idx y ∈ lw_all) (h2 : Cond.static y ∈ lw_all) (h3 : Cond.initialized y.cls ∈ lw_all) (h4 : Cond.codeWith y b L r hh ∈ lw_all) : GoodIn lw_all (va_wsS own idx y (wsW_ y b L r hh)) := by
  refine lw_app ?_ (lw_methW h4)
  intro w hw
  simp only [List.mem_cons, List.not_mem_nil, or_false] at hw
  rcases hw with e | e | e
  · rw [e]; exact h1
  · rw [e]; exact h2
  · rw [e]; exact h3
/-- a word by its place in its run of the tables -/
theorem lw_at {r : List Cond} (hr : ∀ w ∈ r, w ∈ lw_tbl) {w : Cond} (i : Nat) (h : r[i]? = some w) : w ∈ lw_tbl := hr w (List.mem_of_getElem? h)
theorem lw_g {w : Cond} (h : w ∈ lw_tbl) (g : goodWord w = true) : w ∈ lw_all := List.mem_filter.mpr ⟨h, g⟩
theorem lw_ms : ∀ w ∈ k2_sels lw_privs, w ∈ lw_tbl := fun w h => show w ∈ k2_sels lw_privs ++ tables_1 from List.mem_append_left _ h
theorem lw_m0 : ∀ w ∈ tables_1, w ∈ lw_tbl := fun w h => show w ∈ k2_sels lw_privs ++ tables_1 from List.mem_append_right (k2_sels lw_privs) h
theorem qs0 : (Cond.selects "WireText" ⟨"WireText", "word", "(II)V"⟩ ⟨"WireText", "word", "(II)V"⟩) ∈ lw_all := lw_g (lw_at lw_ms 0 rfl) rfl
theorem qs1 : (Cond.selects "WireText" ⟨"WireText", "from", "(I)I"⟩ ⟨"WireText", "from", "(I)I"⟩) ∈ lw_all := lw_g (lw_at lw_ms 1 rfl) rfl
theorem qs2 : (Cond.selects "WireText" ⟨"WireText", "count", "(II)I"⟩ ⟨"WireText", "count", "(II)I"⟩) ∈ lw_all := lw_g (lw_at lw_ms 2 rfl) rfl
theorem qs3 : (Cond.selects "java/lang/Throwable" ⟨"java/lang/Throwable", "fillInStackTrace", "(I)Ljava/lang/Throwable;"⟩ ⟨"java/lang/Throwable", "fillInStackTrace", "(I)Ljava/lang/Throwable;"⟩) ∈ lw_all := lw_g (lw_at lw_ms 3 rfl) rfl
end
section
set_option maxRecDepth 100000
/-! names: J4.java_lang_Object -/
def RJ4 : String := "java/lang/Object"
abbrev cJ4_init : ByteArray := object_method_1_code
def yJ4_init : MethodName := ⟨RJ4, "<init>", "()V"⟩
theorem dJ4_init_0 : decode cJ4_init 0 = .ok (.return_, 1) := by decide +kernel
theorem q18 : (Jvm.Cond.instanceMethod ({ cls := "java/lang/Object", name := "<init>", desc := "()V" } : Jvm.MethodName)) ∈ lw_all := lw_g (lw_at lw_m0 14 rfl) rfl
theorem q19 : (Jvm.Cond.code ({ cls := "java/lang/Object", name := "<init>", desc := "()V" } : Jvm.MethodName) object_method_1_code (1 : Nat) (Option.none : Option Jvm.ClassFile.FieldType)) ∈ lw_all := lw_g (lw_at lw_m0 15 rfl) rfl
/-! names: X1.WireText -/
def RX1 : String := "WireText"
def TX1 : u_T := fun k => match k with
  | 0 => ("WireText", "text", "[B", true)
  | _ => ("WireText", "size", "I", false)
def tyX1 : Nat → FieldType := fun k => match k with
  | 0 => .array .byte
  | _ => .int
abbrev wsX10 : List Cond := u_ws RX1 TX1 2
theorem nmX1 : ∀ a, a < 2 → ∀ b, b < 2 → a ≠ b → (TX1 a).2.1 ≠ (TX1 b).2.1 := by decide +kernel
theorem tyX1_ok : ∀ k, k < 2 → parseFieldDescriptor (TX1 k).2.2.1 = some (tyX1 k) := by decide +kernel
abbrev cX1_init : ByteArray := prog_3_method_1_code
def yX1_init : MethodName := ⟨RX1, "<init>", "()V"⟩
theorem dX1_init_0 : decode cX1_init 0 = .ok (.aload_n 0, 1) := by decide +kernel
theorem dX1_init_1 : decode cX1_init 1 = .ok (.invokespecial 1, 3) := by decide +kernel
theorem dX1_init_4 : decode cX1_init 4 = .ok (.aload_n 0, 1) := by decide +kernel
theorem dX1_init_5 : decode cX1_init 5 = .ok (.sipush 4096, 3) := by decide +kernel
theorem dX1_init_8 : decode cX1_init 8 = .ok (.newarray .byte, 2) := by decide +kernel
theorem dX1_init_10 : decode cX1_init 10 = .ok (.putfield 7, 3) := by decide +kernel
theorem dX1_init_13 : decode cX1_init 13 = .ok (.return_, 1) := by decide +kernel
abbrev cX1_put : ByteArray := prog_3_method_2_code
def yX1_put : MethodName := ⟨RX1, "put", "(IIII)Z"⟩
theorem dX1_put_0 : decode cX1_put 0 = .ok (.aload_n 0, 1) := by decide +kernel
theorem dX1_put_1 : decode cX1_put 1 = .ok (.getfield 13, 3) := by decide +kernel
theorem dX1_put_4 : decode cX1_put 4 = .ok (.aload_n 0, 1) := by decide +kernel
theorem dX1_put_5 : decode cX1_put 5 = .ok (.getfield 7, 3) := by decide +kernel
theorem dX1_put_8 : decode cX1_put 8 = .ok (.arraylength, 1) := by decide +kernel
theorem dX1_put_9 : decode cX1_put 9 = .ok (.bipush 16, 2) := by decide +kernel
theorem dX1_put_11 : decode cX1_put 11 = .ok (.isub, 1) := by decide +kernel
theorem dX1_put_12 : decode cX1_put 12 = .ok (.if_icmp .le 5, 3) := by decide +kernel
theorem dX1_put_15 : decode cX1_put 15 = .ok (.iconst 0, 1) := by decide +kernel
theorem dX1_put_16 : decode cX1_put 16 = .ok (.ireturn, 1) := by decide +kernel
theorem dX1_put_17 : decode cX1_put 17 = .ok (.aload_n 0, 1) := by decide +kernel
theorem dX1_put_18 : decode cX1_put 18 = .ok (.aload_n 0, 1) := by decide +kernel
theorem dX1_put_19 : decode cX1_put 19 = .ok (.getfield 13, 3) := by decide +kernel
theorem dX1_put_22 : decode cX1_put 22 = .ok (.iload_n 1, 1) := by decide +kernel
theorem dX1_put_23 : decode cX1_put 23 = .ok (.invokevirtual 17, 3) := by decide +kernel
theorem dX1_put_26 : decode cX1_put 26 = .ok (.aload_n 0, 1) := by decide +kernel
theorem dX1_put_27 : decode cX1_put 27 = .ok (.aload_n 0, 1) := by decide +kernel
theorem dX1_put_28 : decode cX1_put 28 = .ok (.getfield 13, 3) := by decide +kernel
theorem dX1_put_31 : decode cX1_put 31 = .ok (.iconst 4, 1) := by decide +kernel
theorem dX1_put_32 : decode cX1_put 32 = .ok (.iadd, 1) := by decide +kernel
theorem dX1_put_33 : decode cX1_put 33 = .ok (.iload_n 2, 1) := by decide +kernel
theorem dX1_put_34 : decode cX1_put 34 = .ok (.invokevirtual 17, 3) := by decide +kernel
theorem dX1_put_37 : decode cX1_put 37 = .ok (.aload_n 0, 1) := by decide +kernel
theorem dX1_put_38 : decode cX1_put 38 = .ok (.aload_n 0, 1) := by decide +kernel
theorem dX1_put_39 : decode cX1_put 39 = .ok (.getfield 13, 3) := by decide +kernel
theorem dX1_put_42 : decode cX1_put 42 = .ok (.bipush 8, 2) := by decide +kernel
theorem dX1_put_44 : decode cX1_put 44 = .ok (.iadd, 1) := by decide +kernel
theorem dX1_put_45 : decode cX1_put 45 = .ok (.iload_n 3, 1) := by decide +kernel
theorem dX1_put_46 : decode cX1_put 46 = .ok (.invokevirtual 17, 3) := by decide +kernel
theorem dX1_put_49 : decode cX1_put 49 = .ok (.aload_n 0, 1) := by decide +kernel
theorem dX1_put_50 : decode cX1_put 50 = .ok (.aload_n 0, 1) := by decide +kernel
theorem dX1_put_51 : decode cX1_put 51 = .ok (.getfield 13, 3) := by decide +kernel
theorem dX1_put_54 : decode cX1_put 54 = .ok (.bipush 12, 2) := by decide +kernel
theorem dX1_put_56 : decode cX1_put 56 = .ok (.iadd, 1) := by decide +kernel
theorem dX1_put_57 : decode cX1_put 57 = .ok (.iload 4, 2) := by decide +kernel
theorem dX1_put_59 : decode cX1_put 59 = .ok (.invokevirtual 17, 3) := by decide +kernel
theorem dX1_put_62 : decode cX1_put 62 = .ok (.aload_n 0, 1) := by decide +kernel
theorem dX1_put_63 : decode cX1_put 63 = .ok (.dup, 1) := by decide +kernel
theorem dX1_put_64 : decode cX1_put 64 = .ok (.getfield 13, 3) := by decide +kernel
theorem dX1_put_67 : decode cX1_put 67 = .ok (.bipush 16, 2) := by decide +kernel
theorem dX1_put_69 : decode cX1_put 69 = .ok (.iadd, 1) := by decide +kernel
theorem dX1_put_70 : decode cX1_put 70 = .ok (.putfield 13, 3) := by decide +kernel
theorem dX1_put_73 : decode cX1_put 73 = .ok (.iconst 1, 1) := by decide +kernel
theorem dX1_put_74 : decode cX1_put 74 = .ok (.ireturn, 1) := by decide +kernel
abbrev cX1_word : ByteArray := prog_3_method_3_code
def yX1_word : MethodName := ⟨RX1, "word", "(II)V"⟩
theorem dX1_word_0 : decode cX1_word 0 = .ok (.aload_n 0, 1) := by decide +kernel
theorem dX1_word_1 : decode cX1_word 1 = .ok (.getfield 7, 3) := by decide +kernel
theorem dX1_word_4 : decode cX1_word 4 = .ok (.iload_n 1, 1) := by decide +kernel
theorem dX1_word_5 : decode cX1_word 5 = .ok (.iload_n 2, 1) := by decide +kernel
theorem dX1_word_6 : decode cX1_word 6 = .ok (.bipush 24, 2) := by decide +kernel
theorem dX1_word_8 : decode cX1_word 8 = .ok (.ishr, 1) := by decide +kernel
theorem dX1_word_9 : decode cX1_word 9 = .ok (.i2b, 1) := by decide +kernel
theorem dX1_word_10 : decode cX1_word 10 = .ok (.bastore, 1) := by decide +kernel
theorem dX1_word_11 : decode cX1_word 11 = .ok (.aload_n 0, 1) := by decide +kernel
theorem dX1_word_12 : decode cX1_word 12 = .ok (.getfield 7, 3) := by decide +kernel
theorem dX1_word_15 : decode cX1_word 15 = .ok (.iload_n 1, 1) := by decide +kernel
theorem dX1_word_16 : decode cX1_word 16 = .ok (.iconst 1, 1) := by decide +kernel
theorem dX1_word_17 : decode cX1_word 17 = .ok (.iadd, 1) := by decide +kernel
theorem dX1_word_18 : decode cX1_word 18 = .ok (.iload_n 2, 1) := by decide +kernel
theorem dX1_word_19 : decode cX1_word 19 = .ok (.bipush 16, 2) := by decide +kernel
theorem dX1_word_21 : decode cX1_word 21 = .ok (.ishr, 1) := by decide +kernel
theorem dX1_word_22 : decode cX1_word 22 = .ok (.i2b, 1) := by decide +kernel
theorem dX1_word_23 : decode cX1_word 23 = .ok (.bastore, 1) := by decide +kernel
theorem dX1_word_24 : decode cX1_word 24 = .ok (.aload_n 0, 1) := by decide +kernel
theorem dX1_word_25 : decode cX1_word 25 = .ok (.getfield 7, 3) := by decide +kernel
theorem dX1_word_28 : decode cX1_word 28 = .ok (.iload_n 1, 1) := by decide +kernel
theorem dX1_word_29 : decode cX1_word 29 = .ok (.iconst 2, 1) := by decide +kernel
theorem dX1_word_30 : decode cX1_word 30 = .ok (.iadd, 1) := by decide +kernel
theorem dX1_word_31 : decode cX1_word 31 = .ok (.iload_n 2, 1) := by decide +kernel
theorem dX1_word_32 : decode cX1_word 32 = .ok (.bipush 8, 2) := by decide +kernel
theorem dX1_word_34 : decode cX1_word 34 = .ok (.ishr, 1) := by decide +kernel
theorem dX1_word_35 : decode cX1_word 35 = .ok (.i2b, 1) := by decide +kernel
theorem dX1_word_36 : decode cX1_word 36 = .ok (.bastore, 1) := by decide +kernel
theorem dX1_word_37 : decode cX1_word 37 = .ok (.aload_n 0, 1) := by decide +kernel
theorem dX1_word_38 : decode cX1_word 38 = .ok (.getfield 7, 3) := by decide +kernel
theorem dX1_word_41 : decode cX1_word 41 = .ok (.iload_n 1, 1) := by decide +kernel
theorem dX1_word_42 : decode cX1_word 42 = .ok (.iconst 3, 1) := by decide +kernel
theorem dX1_word_43 : decode cX1_word 43 = .ok (.iadd, 1) := by decide +kernel
theorem dX1_word_44 : decode cX1_word 44 = .ok (.iload_n 2, 1) := by decide +kernel
theorem dX1_word_45 : decode cX1_word 45 = .ok (.i2b, 1) := by decide +kernel
theorem dX1_word_46 : decode cX1_word 46 = .ok (.bastore, 1) := by decide +kernel
theorem dX1_word_47 : decode cX1_word 47 = .ok (.return_, 1) := by decide +kernel
abbrev cX1_trim : ByteArray := prog_3_method_4_code
def yX1_trim : MethodName := ⟨RX1, "trim", "(I)V"⟩
theorem dX1_trim_0 : decode cX1_trim 0 = .ok (.aload_n 0, 1) := by decide +kernel
theorem dX1_trim_1 : decode cX1_trim 1 = .ok (.aload_n 0, 1) := by decide +kernel
theorem dX1_trim_2 : decode cX1_trim 2 = .ok (.iload_n 1, 1) := by decide +kernel
theorem dX1_trim_3 : decode cX1_trim 3 = .ok (.invokevirtual 21, 3) := by decide +kernel
theorem dX1_trim_6 : decode cX1_trim 6 = .ok (.putfield 13, 3) := by decide +kernel
theorem dX1_trim_9 : decode cX1_trim 9 = .ok (.return_, 1) := by decide +kernel
abbrev cX1_from : ByteArray := prog_3_method_6_code
def yX1_from : MethodName := ⟨RX1, "from", "(I)I"⟩
theorem dX1_from_0 : decode cX1_from 0 = .ok (.iload_n 1, 1) := by decide +kernel
theorem dX1_from_1 : decode cX1_from 1 = .ok (.ldc 25, 2) := by decide +kernel
theorem dX1_from_3 : decode cX1_from 3 = .ok (.iand, 1) := by decide +kernel
theorem dX1_from_4 : decode cX1_from 4 = .ok (.aload_n 0, 1) := by decide +kernel
theorem dX1_from_5 : decode cX1_from 5 = .ok (.getfield 13, 3) := by decide +kernel
theorem dX1_from_8 : decode cX1_from 8 = .ok (.iconst 1, 1) := by decide +kernel
theorem dX1_from_9 : decode cX1_from 9 = .ok (.iadd, 1) := by decide +kernel
theorem dX1_from_10 : decode cX1_from 10 = .ok (.irem, 1) := by decide +kernel
theorem dX1_from_11 : decode cX1_from 11 = .ok (.ireturn, 1) := by decide +kernel
abbrev cX1_size : ByteArray := prog_3_method_5_code
def yX1_size : MethodName := ⟨RX1, "size", "()I"⟩
theorem dX1_size_0 : decode cX1_size 0 = .ok (.aload_n 0, 1) := by decide +kernel
theorem dX1_size_1 : decode cX1_size 1 = .ok (.getfield 13, 3) := by decide +kernel
theorem dX1_size_4 : decode cX1_size 4 = .ok (.ireturn, 1) := by decide +kernel
abbrev cX1_fair : ByteArray := prog_3_method_8_code
def yX1_fair : MethodName := ⟨RX1, "fair", "(II)Z"⟩
theorem dX1_fair_0 : decode cX1_fair 0 = .ok (.aload_n 0, 1) := by decide +kernel
theorem dX1_fair_1 : decode cX1_fair 1 = .ok (.iload_n 1, 1) := by decide +kernel
theorem dX1_fair_2 : decode cX1_fair 2 = .ok (.invokevirtual 21, 3) := by decide +kernel
theorem dX1_fair_5 : decode cX1_fair 5 = .ok (.istore_n 3, 1) := by decide +kernel
theorem dX1_fair_6 : decode cX1_fair 6 = .ok (.aload_n 0, 1) := by decide +kernel
theorem dX1_fair_7 : decode cX1_fair 7 = .ok (.getfield 7, 3) := by decide +kernel
theorem dX1_fair_10 : decode cX1_fair 10 = .ok (.iload_n 3, 1) := by decide +kernel
theorem dX1_fair_11 : decode cX1_fair 11 = .ok (.aload_n 0, 1) := by decide +kernel
theorem dX1_fair_12 : decode cX1_fair 12 = .ok (.iload_n 3, 1) := by decide +kernel
theorem dX1_fair_13 : decode cX1_fair 13 = .ok (.iload_n 2, 1) := by decide +kernel
theorem dX1_fair_14 : decode cX1_fair 14 = .ok (.invokevirtual 26, 3) := by decide +kernel
theorem dX1_fair_17 : decode cX1_fair 17 = .ok (.invokestatic 30, 3) := by decide +kernel
theorem dX1_fair_20 : decode cX1_fair 20 = .ok (.ireturn, 1) := by decide +kernel
abbrev cX1_count : ByteArray := prog_3_method_7_code
def yX1_count : MethodName := ⟨RX1, "count", "(II)I"⟩
theorem dX1_count_0 : decode cX1_count 0 = .ok (.iload_n 2, 1) := by decide +kernel
theorem dX1_count_1 : decode cX1_count 1 = .ok (.ldc 25, 2) := by decide +kernel
theorem dX1_count_3 : decode cX1_count 3 = .ok (.iand, 1) := by decide +kernel
theorem dX1_count_4 : decode cX1_count 4 = .ok (.aload_n 0, 1) := by decide +kernel
theorem dX1_count_5 : decode cX1_count 5 = .ok (.getfield 13, 3) := by decide +kernel
theorem dX1_count_8 : decode cX1_count 8 = .ok (.iload_n 1, 1) := by decide +kernel
theorem dX1_count_9 : decode cX1_count 9 = .ok (.isub, 1) := by decide +kernel
theorem dX1_count_10 : decode cX1_count 10 = .ok (.iconst 1, 1) := by decide +kernel
theorem dX1_count_11 : decode cX1_count 11 = .ok (.iadd, 1) := by decide +kernel
theorem dX1_count_12 : decode cX1_count 12 = .ok (.irem, 1) := by decide +kernel
theorem dX1_count_13 : decode cX1_count 13 = .ok (.ireturn, 1) := by decide +kernel
abbrev cX1_sign : ByteArray := prog_3_method_9_code
def yX1_sign : MethodName := ⟨RX1, "sign", "(II)V"⟩
theorem dX1_sign_0 : decode cX1_sign 0 = .ok (.aload_n 0, 1) := by decide +kernel
theorem dX1_sign_1 : decode cX1_sign 1 = .ok (.getfield 13, 3) := by decide +kernel
theorem dX1_sign_4 : decode cX1_sign 4 = .ok (.ifCond .le 21, 3) := by decide +kernel
theorem dX1_sign_7 : decode cX1_sign 7 = .ok (.iload_n 1, 1) := by decide +kernel
theorem dX1_sign_8 : decode cX1_sign 8 = .ok (.ldc 25, 2) := by decide +kernel
theorem dX1_sign_10 : decode cX1_sign 10 = .ok (.iand, 1) := by decide +kernel
theorem dX1_sign_11 : decode cX1_sign 11 = .ok (.aload_n 0, 1) := by decide +kernel
theorem dX1_sign_12 : decode cX1_sign 12 = .ok (.getfield 13, 3) := by decide +kernel
theorem dX1_sign_15 : decode cX1_sign 15 = .ok (.irem, 1) := by decide +kernel
theorem dX1_sign_16 : decode cX1_sign 16 = .ok (.istore_n 3, 1) := by decide +kernel
theorem dX1_sign_17 : decode cX1_sign 17 = .ok (.aload_n 0, 1) := by decide +kernel
theorem dX1_sign_18 : decode cX1_sign 18 = .ok (.getfield 7, 3) := by decide +kernel
theorem dX1_sign_21 : decode cX1_sign 21 = .ok (.iload_n 3, 1) := by decide +kernel
theorem dX1_sign_22 : decode cX1_sign 22 = .ok (.iload_n 2, 1) := by decide +kernel
theorem dX1_sign_23 : decode cX1_sign 23 = .ok (.i2b, 1) := by decide +kernel
theorem dX1_sign_24 : decode cX1_sign 24 = .ok (.bastore, 1) := by decide +kernel
theorem dX1_sign_25 : decode cX1_sign 25 = .ok (.return_, 1) := by decide +kernel
theorem q5 : (Jvm.Cond.initialized "WireText") ∈ lw_all := lw_g (lw_at lw_m0 1 rfl) rfl
theorem q13 : (Jvm.Cond.instantiable "WireText" (2 : Nat)) ∈ lw_all := lw_g (lw_at lw_m0 9 rfl) rfl
theorem q15 : (Jvm.Cond.instanceMethod ({ cls := "WireText", name := "<init>", desc := "()V" } : Jvm.MethodName)) ∈ lw_all := lw_g (lw_at lw_m0 11 rfl) rfl
theorem q16 : (Jvm.Cond.code ({ cls := "WireText", name := "<init>", desc := "()V" } : Jvm.MethodName) prog_3_method_1_code (1 : Nat) (Option.none : Option Jvm.ClassFile.FieldType)) ∈ lw_all := lw_g (lw_at lw_m0 12 rfl) rfl
theorem q17 : (Jvm.Cond.methodLink "WireText" (1 : Nat) ({ cls := "java/lang/Object", name := "<init>", desc := "()V" } : Jvm.MethodName)) ∈ lw_all := lw_g (lw_at lw_m0 13 rfl) rfl
theorem q20 : (Jvm.Cond.fieldLink "WireText" (7 : Nat) "WireText" "text" "[B") ∈ lw_all := lw_g (lw_at lw_m0 16 rfl) rfl
theorem q21 : (Jvm.Cond.fieldLink "WireText" (13 : Nat) "WireText" "size" "I") ∈ lw_all := lw_g (lw_at lw_m0 17 rfl) rfl
theorem q22 : (Jvm.Cond.laysFinal "WireText" "WireText" "text" "[B") ∈ lw_all := lw_g (lw_at lw_m0 18 rfl) rfl
theorem q23 : (Jvm.Cond.soleField "WireText" "text") ∈ lw_all := lw_g (lw_at lw_m0 19 rfl) rfl
theorem q24 : (Jvm.Cond.lays "WireText" "WireText" "size" "I") ∈ lw_all := lw_g (lw_at lw_m0 20 rfl) rfl
theorem q25 : (Jvm.Cond.soleField "WireText" "size") ∈ lw_all := lw_g (lw_at lw_m0 21 rfl) rfl
theorem q26 : (Jvm.Cond.superclass "WireText" "java/lang/Object") ∈ lw_all := lw_g (lw_at lw_m0 22 rfl) rfl
theorem q29 : (Jvm.Cond.instanceMethod ({ cls := "WireText", name := "put", desc := "(IIII)Z" } : Jvm.MethodName)) ∈ lw_all := lw_g (lw_at lw_m0 25 rfl) rfl
theorem q30 : (Jvm.Cond.selects "WireText" ({ cls := "WireText", name := "put", desc := "(IIII)Z" } : Jvm.MethodName) ({ cls := "WireText", name := "put", desc := "(IIII)Z" } : Jvm.MethodName)) ∈ lw_all := lw_g (lw_at lw_m0 26 rfl) rfl
theorem q31 : (Jvm.Cond.code ({ cls := "WireText", name := "put", desc := "(IIII)Z" } : Jvm.MethodName) prog_3_method_2_code (5 : Nat) (Option.some Jvm.ClassFile.FieldType.boolean)) ∈ lw_all := lw_g (lw_at lw_m0 27 rfl) rfl
theorem q32 : (Jvm.Cond.methodLink "WireText" (17 : Nat) ({ cls := "WireText", name := "word", desc := "(II)V" } : Jvm.MethodName)) ∈ lw_all := lw_g (lw_at lw_m0 28 rfl) rfl
theorem q33 : (Jvm.Cond.privateMethod ({ cls := "WireText", name := "word", desc := "(II)V" } : Jvm.MethodName)) ∈ lw_tbl := lw_at lw_m0 29 rfl
theorem q34 : (Jvm.Cond.instanceMethod ({ cls := "WireText", name := "word", desc := "(II)V" } : Jvm.MethodName)) ∈ lw_all := lw_g (lw_at lw_m0 30 rfl) rfl
theorem q35 : (Jvm.Cond.code ({ cls := "WireText", name := "word", desc := "(II)V" } : Jvm.MethodName) prog_3_method_3_code (3 : Nat) (Option.none : Option Jvm.ClassFile.FieldType)) ∈ lw_all := lw_g (lw_at lw_m0 31 rfl) rfl
theorem q37 : (Jvm.Cond.instanceMethod ({ cls := "WireText", name := "trim", desc := "(I)V" } : Jvm.MethodName)) ∈ lw_all := lw_g (lw_at lw_m0 33 rfl) rfl
theorem q38 : (Jvm.Cond.selects "WireText" ({ cls := "WireText", name := "trim", desc := "(I)V" } : Jvm.MethodName) ({ cls := "WireText", name := "trim", desc := "(I)V" } : Jvm.MethodName)) ∈ lw_all := lw_g (lw_at lw_m0 34 rfl) rfl
theorem q39 : (Jvm.Cond.code ({ cls := "WireText", name := "trim", desc := "(I)V" } : Jvm.MethodName) prog_3_method_4_code (2 : Nat) (Option.none : Option Jvm.ClassFile.FieldType)) ∈ lw_all := lw_g (lw_at lw_m0 35 rfl) rfl
theorem q40 : (Jvm.Cond.methodLink "WireText" (21 : Nat) ({ cls := "WireText", name := "from", desc := "(I)I" } : Jvm.MethodName)) ∈ lw_all := lw_g (lw_at lw_m0 36 rfl) rfl
theorem q41 : (Jvm.Cond.privateMethod ({ cls := "WireText", name := "from", desc := "(I)I" } : Jvm.MethodName)) ∈ lw_tbl := lw_at lw_m0 37 rfl
theorem q42 : (Jvm.Cond.instanceMethod ({ cls := "WireText", name := "from", desc := "(I)I" } : Jvm.MethodName)) ∈ lw_all := lw_g (lw_at lw_m0 38 rfl) rfl
theorem q43 : (Jvm.Cond.code ({ cls := "WireText", name := "from", desc := "(I)I" } : Jvm.MethodName) prog_3_method_6_code (2 : Nat) (Option.some Jvm.ClassFile.FieldType.int)) ∈ lw_all := lw_g (lw_at lw_m0 39 rfl) rfl
theorem q44 : (Jvm.Cond.constant "WireText" (25 : Nat) (2147483647 : Int32)) ∈ lw_all := lw_g (lw_at lw_m0 40 rfl) rfl
theorem q46 : (Jvm.Cond.instanceMethod ({ cls := "WireText", name := "size", desc := "()I" } : Jvm.MethodName)) ∈ lw_all := lw_g (lw_at lw_m0 42 rfl) rfl
theorem q47 : (Jvm.Cond.selects "WireText" ({ cls := "WireText", name := "size", desc := "()I" } : Jvm.MethodName) ({ cls := "WireText", name := "size", desc := "()I" } : Jvm.MethodName)) ∈ lw_all := lw_g (lw_at lw_m0 43 rfl) rfl
theorem q48 : (Jvm.Cond.code ({ cls := "WireText", name := "size", desc := "()I" } : Jvm.MethodName) prog_3_method_5_code (1 : Nat) (Option.some Jvm.ClassFile.FieldType.int)) ∈ lw_all := lw_g (lw_at lw_m0 44 rfl) rfl
theorem q50 : (Jvm.Cond.instanceMethod ({ cls := "WireText", name := "fair", desc := "(II)Z" } : Jvm.MethodName)) ∈ lw_all := lw_g (lw_at lw_m0 46 rfl) rfl
theorem q51 : (Jvm.Cond.selects "WireText" ({ cls := "WireText", name := "fair", desc := "(II)Z" } : Jvm.MethodName) ({ cls := "WireText", name := "fair", desc := "(II)Z" } : Jvm.MethodName)) ∈ lw_all := lw_g (lw_at lw_m0 47 rfl) rfl
theorem q52 : (Jvm.Cond.code ({ cls := "WireText", name := "fair", desc := "(II)Z" } : Jvm.MethodName) prog_3_method_8_code (4 : Nat) (Option.some Jvm.ClassFile.FieldType.boolean)) ∈ lw_all := lw_g (lw_at lw_m0 48 rfl) rfl
theorem q53 : (Jvm.Cond.methodLink "WireText" (26 : Nat) ({ cls := "WireText", name := "count", desc := "(II)I" } : Jvm.MethodName)) ∈ lw_all := lw_g (lw_at lw_m0 49 rfl) rfl
theorem q54 : (Jvm.Cond.privateMethod ({ cls := "WireText", name := "count", desc := "(II)I" } : Jvm.MethodName)) ∈ lw_tbl := lw_at lw_m0 50 rfl
theorem q55 : (Jvm.Cond.instanceMethod ({ cls := "WireText", name := "count", desc := "(II)I" } : Jvm.MethodName)) ∈ lw_all := lw_g (lw_at lw_m0 51 rfl) rfl
theorem q56 : (Jvm.Cond.code ({ cls := "WireText", name := "count", desc := "(II)I" } : Jvm.MethodName) prog_3_method_7_code (3 : Nat) (Option.some Jvm.ClassFile.FieldType.int)) ∈ lw_all := lw_g (lw_at lw_m0 52 rfl) rfl
theorem q57 : (Jvm.Cond.methodLink "WireText" (30 : Nat) ({ cls := "Utf8", name := "isWellFormed", desc := "([BII)Z" } : Jvm.MethodName)) ∈ lw_all := lw_g (lw_at lw_m0 53 rfl) rfl
theorem q132 : (Jvm.Cond.instanceMethod ({ cls := "WireText", name := "sign", desc := "(II)V" } : Jvm.MethodName)) ∈ lw_all := lw_g (lw_at lw_m0 128 rfl) rfl
theorem q133 : (Jvm.Cond.selects "WireText" ({ cls := "WireText", name := "sign", desc := "(II)V" } : Jvm.MethodName) ({ cls := "WireText", name := "sign", desc := "(II)V" } : Jvm.MethodName)) ∈ lw_all := lw_g (lw_at lw_m0 129 rfl) rfl
theorem q134 : (Jvm.Cond.code ({ cls := "WireText", name := "sign", desc := "(II)V" } : Jvm.MethodName) prog_3_method_9_code (4 : Nat) (Option.none : Option Jvm.ClassFile.FieldType)) ∈ lw_all := lw_g (lw_at lw_m0 130 rfl) rfl
theorem in_X1 : ∀ w ∈ wsX10, w ∈ lw_all := lw_in wsX10 [22, 24] (by decide +kernel) (by decide +kernel)
/-! names: words.rest -/
theorem q27 : (Jvm.Cond.arrayClass Jvm.ClassFile.FieldType.byte) ∈ lw_all := lw_g (lw_at lw_m0 23 rfl) rfl
end
section
set_option maxRecDepth 100000
/-! names: X2.Utf8 -/
def RX2 : String := "Utf8"
abbrev cX2_isWellFormed : ByteArray := prog_2_method_1_code
def yX2_isWellFormed : MethodName := ⟨RX2, "isWellFormed", "([BII)Z"⟩
theorem dX2_isWellFormed_0 : decode cX2_isWellFormed 0 = .ok (.iload_n 1, 1) := by decide +kernel
theorem dX2_isWellFormed_1 : decode cX2_isWellFormed 1 = .ok (.iload_n 2, 1) := by decide +kernel
theorem dX2_isWellFormed_2 : decode cX2_isWellFormed 2 = .ok (.iadd, 1) := by decide +kernel
theorem dX2_isWellFormed_3 : decode cX2_isWellFormed 3 = .ok (.istore_n 3, 1) := by decide +kernel
theorem dX2_isWellFormed_4 : decode cX2_isWellFormed 4 = .ok (.iload_n 1, 1) := by decide +kernel
theorem dX2_isWellFormed_5 : decode cX2_isWellFormed 5 = .ok (.iload_n 3, 1) := by decide +kernel
theorem dX2_isWellFormed_6 : decode cX2_isWellFormed 6 = .ok (.aload_n 0, 1) := by decide +kernel
theorem dX2_isWellFormed_7 : decode cX2_isWellFormed 7 = .ok (.arraylength, 1) := by decide +kernel
theorem dX2_isWellFormed_8 : decode cX2_isWellFormed 8 = .ok (.invokestatic 1, 3) := by decide +kernel
theorem dX2_isWellFormed_11 : decode cX2_isWellFormed 11 = .ok (.iload_n 1, 1) := by decide +kernel
theorem dX2_isWellFormed_12 : decode cX2_isWellFormed 12 = .ok (.istore 4, 2) := by decide +kernel
theorem dX2_isWellFormed_14 : decode cX2_isWellFormed 14 = .ok (.iload 4, 2) := by decide +kernel
theorem dX2_isWellFormed_16 : decode cX2_isWellFormed 16 = .ok (.iload_n 3, 1) := by decide +kernel
theorem dX2_isWellFormed_17 : decode cX2_isWellFormed 17 = .ok (.if_icmp .ge 24, 3) := by decide +kernel
theorem dX2_isWellFormed_20 : decode cX2_isWellFormed 20 = .ok (.aload_n 0, 1) := by decide +kernel
theorem dX2_isWellFormed_21 : decode cX2_isWellFormed 21 = .ok (.iload 4, 2) := by decide +kernel
theorem dX2_isWellFormed_23 : decode cX2_isWellFormed 23 = .ok (.baload, 1) := by decide +kernel
theorem dX2_isWellFormed_24 : decode cX2_isWellFormed 24 = .ok (.ifCond .ge 11, 3) := by decide +kernel
theorem dX2_isWellFormed_27 : decode cX2_isWellFormed 27 = .ok (.aload_n 0, 1) := by decide +kernel
theorem dX2_isWellFormed_28 : decode cX2_isWellFormed 28 = .ok (.iload 4, 2) := by decide +kernel
theorem dX2_isWellFormed_30 : decode cX2_isWellFormed 30 = .ok (.iload_n 3, 1) := by decide +kernel
theorem dX2_isWellFormed_31 : decode cX2_isWellFormed 31 = .ok (.invokestatic 7, 3) := by decide +kernel
theorem dX2_isWellFormed_34 : decode cX2_isWellFormed 34 = .ok (.ireturn, 1) := by decide +kernel
theorem dX2_isWellFormed_35 : decode cX2_isWellFormed 35 = .ok (.iinc 4 1, 3) := by decide +kernel
theorem dX2_isWellFormed_38 : decode cX2_isWellFormed 38 = .ok (.goto (-24), 3) := by decide +kernel
theorem dX2_isWellFormed_41 : decode cX2_isWellFormed 41 = .ok (.iconst 1, 1) := by decide +kernel
theorem dX2_isWellFormed_42 : decode cX2_isWellFormed 42 = .ok (.ireturn, 1) := by decide +kernel
abbrev cX2_isWellFormedSlowPath : ByteArray := prog_2_method_2_code
def yX2_isWellFormedSlowPath : MethodName := ⟨RX2, "isWellFormedSlowPath", "([BII)Z"⟩
theorem dX2_isWellFormedSlowPath_0 : decode cX2_isWellFormedSlowPath 0 = .ok (.iload_n 1, 1) := by decide +kernel
theorem dX2_isWellFormedSlowPath_1 : decode cX2_isWellFormedSlowPath 1 = .ok (.istore_n 3, 1) := by decide +kernel
theorem dX2_isWellFormedSlowPath_2 : decode cX2_isWellFormedSlowPath 2 = .ok (.iload_n 3, 1) := by decide +kernel
theorem dX2_isWellFormedSlowPath_3 : decode cX2_isWellFormedSlowPath 3 = .ok (.iload_n 2, 1) := by decide +kernel
theorem dX2_isWellFormedSlowPath_4 : decode cX2_isWellFormedSlowPath 4 = .ok (.if_icmp .lt 5, 3) := by decide +kernel
theorem dX2_isWellFormedSlowPath_7 : decode cX2_isWellFormedSlowPath 7 = .ok (.iconst 1, 1) := by decide +kernel
theorem dX2_isWellFormedSlowPath_8 : decode cX2_isWellFormedSlowPath 8 = .ok (.ireturn, 1) := by decide +kernel
theorem dX2_isWellFormedSlowPath_9 : decode cX2_isWellFormedSlowPath 9 = .ok (.aload_n 0, 1) := by decide +kernel
theorem dX2_isWellFormedSlowPath_10 : decode cX2_isWellFormedSlowPath 10 = .ok (.iload_n 3, 1) := by decide +kernel
theorem dX2_isWellFormedSlowPath_11 : decode cX2_isWellFormedSlowPath 11 = .ok (.iinc 3 1, 3) := by decide +kernel
theorem dX2_isWellFormedSlowPath_14 : decode cX2_isWellFormedSlowPath 14 = .ok (.baload, 1) := by decide +kernel
theorem dX2_isWellFormedSlowPath_15 : decode cX2_isWellFormedSlowPath 15 = .ok (.dup, 1) := by decide +kernel
theorem dX2_isWellFormedSlowPath_16 : decode cX2_isWellFormedSlowPath 16 = .ok (.istore 4, 2) := by decide +kernel
theorem dX2_isWellFormedSlowPath_18 : decode cX2_isWellFormedSlowPath 18 = .ok (.ifCond .ge (-16), 3) := by decide +kernel
theorem dX2_isWellFormedSlowPath_21 : decode cX2_isWellFormedSlowPath 21 = .ok (.iload 4, 2) := by decide +kernel
theorem dX2_isWellFormedSlowPath_23 : decode cX2_isWellFormedSlowPath 23 = .ok (.bipush (-32), 2) := by decide +kernel
theorem dX2_isWellFormedSlowPath_25 : decode cX2_isWellFormedSlowPath 25 = .ok (.if_icmp .ge 30, 3) := by decide +kernel
theorem dX2_isWellFormedSlowPath_28 : decode cX2_isWellFormedSlowPath 28 = .ok (.iload_n 3, 1) := by decide +kernel
theorem dX2_isWellFormedSlowPath_29 : decode cX2_isWellFormedSlowPath 29 = .ok (.iload_n 2, 1) := by decide +kernel
theorem dX2_isWellFormedSlowPath_30 : decode cX2_isWellFormedSlowPath 30 = .ok (.if_icmp .ne 5, 3) := by decide +kernel
theorem dX2_isWellFormedSlowPath_33 : decode cX2_isWellFormedSlowPath 33 = .ok (.iconst 0, 1) := by decide +kernel
theorem dX2_isWellFormedSlowPath_34 : decode cX2_isWellFormedSlowPath 34 = .ok (.ireturn, 1) := by decide +kernel
theorem dX2_isWellFormedSlowPath_35 : decode cX2_isWellFormedSlowPath 35 = .ok (.iload 4, 2) := by decide +kernel
theorem dX2_isWellFormedSlowPath_37 : decode cX2_isWellFormedSlowPath 37 = .ok (.bipush (-62), 2) := by decide +kernel
theorem dX2_isWellFormedSlowPath_39 : decode cX2_isWellFormedSlowPath 39 = .ok (.if_icmp .lt 14, 3) := by decide +kernel
theorem dX2_isWellFormedSlowPath_42 : decode cX2_isWellFormedSlowPath 42 = .ok (.aload_n 0, 1) := by decide +kernel
theorem dX2_isWellFormedSlowPath_43 : decode cX2_isWellFormedSlowPath 43 = .ok (.iload_n 3, 1) := by decide +kernel
theorem dX2_isWellFormedSlowPath_44 : decode cX2_isWellFormedSlowPath 44 = .ok (.iinc 3 1, 3) := by decide +kernel
theorem dX2_isWellFormedSlowPath_47 : decode cX2_isWellFormedSlowPath 47 = .ok (.baload, 1) := by decide +kernel
theorem dX2_isWellFormedSlowPath_48 : decode cX2_isWellFormedSlowPath 48 = .ok (.bipush (-65), 2) := by decide +kernel
theorem dX2_isWellFormedSlowPath_50 : decode cX2_isWellFormedSlowPath 50 = .ok (.if_icmp .le 145, 3) := by decide +kernel
theorem dX2_isWellFormedSlowPath_53 : decode cX2_isWellFormedSlowPath 53 = .ok (.iconst 0, 1) := by decide +kernel
theorem dX2_isWellFormedSlowPath_54 : decode cX2_isWellFormedSlowPath 54 = .ok (.ireturn, 1) := by decide +kernel
theorem dX2_isWellFormedSlowPath_55 : decode cX2_isWellFormedSlowPath 55 = .ok (.iload 4, 2) := by decide +kernel
theorem dX2_isWellFormedSlowPath_57 : decode cX2_isWellFormedSlowPath 57 = .ok (.bipush (-16), 2) := by decide +kernel
theorem dX2_isWellFormedSlowPath_59 : decode cX2_isWellFormedSlowPath 59 = .ok (.if_icmp .ge 71, 3) := by decide +kernel
theorem dX2_isWellFormedSlowPath_62 : decode cX2_isWellFormedSlowPath 62 = .ok (.iload_n 3, 1) := by decide +kernel
theorem dX2_isWellFormedSlowPath_63 : decode cX2_isWellFormedSlowPath 63 = .ok (.iconst 1, 1) := by decide +kernel
theorem dX2_isWellFormedSlowPath_64 : decode cX2_isWellFormedSlowPath 64 = .ok (.iadd, 1) := by decide +kernel
theorem dX2_isWellFormedSlowPath_65 : decode cX2_isWellFormedSlowPath 65 = .ok (.iload_n 2, 1) := by decide +kernel
theorem dX2_isWellFormedSlowPath_66 : decode cX2_isWellFormedSlowPath 66 = .ok (.if_icmp .lt 5, 3) := by decide +kernel
theorem dX2_isWellFormedSlowPath_69 : decode cX2_isWellFormedSlowPath 69 = .ok (.iconst 0, 1) := by decide +kernel
theorem dX2_isWellFormedSlowPath_70 : decode cX2_isWellFormedSlowPath 70 = .ok (.ireturn, 1) := by decide +kernel
theorem dX2_isWellFormedSlowPath_71 : decode cX2_isWellFormedSlowPath 71 = .ok (.aload_n 0, 1) := by decide +kernel
theorem dX2_isWellFormedSlowPath_72 : decode cX2_isWellFormedSlowPath 72 = .ok (.iload_n 3, 1) := by decide +kernel
theorem dX2_isWellFormedSlowPath_73 : decode cX2_isWellFormedSlowPath 73 = .ok (.iinc 3 1, 3) := by decide +kernel
theorem dX2_isWellFormedSlowPath_76 : decode cX2_isWellFormedSlowPath 76 = .ok (.baload, 1) := by decide +kernel
theorem dX2_isWellFormedSlowPath_77 : decode cX2_isWellFormedSlowPath 77 = .ok (.istore 5, 2) := by decide +kernel
theorem dX2_isWellFormedSlowPath_79 : decode cX2_isWellFormedSlowPath 79 = .ok (.iload 5, 2) := by decide +kernel
theorem dX2_isWellFormedSlowPath_81 : decode cX2_isWellFormedSlowPath 81 = .ok (.bipush (-65), 2) := by decide +kernel
theorem dX2_isWellFormedSlowPath_83 : decode cX2_isWellFormedSlowPath 83 = .ok (.if_icmp .gt 42, 3) := by decide +kernel
theorem dX2_isWellFormedSlowPath_86 : decode cX2_isWellFormedSlowPath 86 = .ok (.iload 4, 2) := by decide +kernel
theorem dX2_isWellFormedSlowPath_88 : decode cX2_isWellFormedSlowPath 88 = .ok (.bipush (-32), 2) := by decide +kernel
theorem dX2_isWellFormedSlowPath_90 : decode cX2_isWellFormedSlowPath 90 = .ok (.if_icmp .ne 10, 3) := by decide +kernel
theorem dX2_isWellFormedSlowPath_93 : decode cX2_isWellFormedSlowPath 93 = .ok (.iload 5, 2) := by decide +kernel
theorem dX2_isWellFormedSlowPath_95 : decode cX2_isWellFormedSlowPath 95 = .ok (.bipush (-96), 2) := by decide +kernel
theorem dX2_isWellFormedSlowPath_97 : decode cX2_isWellFormedSlowPath 97 = .ok (.if_icmp .lt 28, 3) := by decide +kernel
theorem dX2_isWellFormedSlowPath_100 : decode cX2_isWellFormedSlowPath 100 = .ok (.iload 4, 2) := by decide +kernel
theorem dX2_isWellFormedSlowPath_102 : decode cX2_isWellFormedSlowPath 102 = .ok (.bipush (-19), 2) := by decide +kernel
theorem dX2_isWellFormedSlowPath_104 : decode cX2_isWellFormedSlowPath 104 = .ok (.if_icmp .ne 10, 3) := by decide +kernel
theorem dX2_isWellFormedSlowPath_107 : decode cX2_isWellFormedSlowPath 107 = .ok (.iload 5, 2) := by decide +kernel
theorem dX2_isWellFormedSlowPath_109 : decode cX2_isWellFormedSlowPath 109 = .ok (.bipush (-96), 2) := by decide +kernel
theorem dX2_isWellFormedSlowPath_111 : decode cX2_isWellFormedSlowPath 111 = .ok (.if_icmp .ge 14, 3) := by decide +kernel
theorem dX2_isWellFormedSlowPath_114 : decode cX2_isWellFormedSlowPath 114 = .ok (.aload_n 0, 1) := by decide +kernel
theorem dX2_isWellFormedSlowPath_115 : decode cX2_isWellFormedSlowPath 115 = .ok (.iload_n 3, 1) := by decide +kernel
theorem dX2_isWellFormedSlowPath_116 : decode cX2_isWellFormedSlowPath 116 = .ok (.iinc 3 1, 3) := by decide +kernel
theorem dX2_isWellFormedSlowPath_119 : decode cX2_isWellFormedSlowPath 119 = .ok (.baload, 1) := by decide +kernel
theorem dX2_isWellFormedSlowPath_120 : decode cX2_isWellFormedSlowPath 120 = .ok (.bipush (-65), 2) := by decide +kernel
theorem dX2_isWellFormedSlowPath_122 : decode cX2_isWellFormedSlowPath 122 = .ok (.if_icmp .le 5, 3) := by decide +kernel
theorem dX2_isWellFormedSlowPath_125 : decode cX2_isWellFormedSlowPath 125 = .ok (.iconst 0, 1) := by decide +kernel
theorem dX2_isWellFormedSlowPath_126 : decode cX2_isWellFormedSlowPath 126 = .ok (.ireturn, 1) := by decide +kernel
theorem dX2_isWellFormedSlowPath_127 : decode cX2_isWellFormedSlowPath 127 = .ok (.goto 68, 3) := by decide +kernel
theorem dX2_isWellFormedSlowPath_130 : decode cX2_isWellFormedSlowPath 130 = .ok (.iload_n 3, 1) := by decide +kernel
theorem dX2_isWellFormedSlowPath_131 : decode cX2_isWellFormedSlowPath 131 = .ok (.iconst 2, 1) := by decide +kernel
theorem dX2_isWellFormedSlowPath_132 : decode cX2_isWellFormedSlowPath 132 = .ok (.iadd, 1) := by decide +kernel
theorem dX2_isWellFormedSlowPath_133 : decode cX2_isWellFormedSlowPath 133 = .ok (.iload_n 2, 1) := by decide +kernel
theorem dX2_isWellFormedSlowPath_134 : decode cX2_isWellFormedSlowPath 134 = .ok (.if_icmp .lt 5, 3) := by decide +kernel
theorem dX2_isWellFormedSlowPath_137 : decode cX2_isWellFormedSlowPath 137 = .ok (.iconst 0, 1) := by decide +kernel
theorem dX2_isWellFormedSlowPath_138 : decode cX2_isWellFormedSlowPath 138 = .ok (.ireturn, 1) := by decide +kernel
theorem dX2_isWellFormedSlowPath_139 : decode cX2_isWellFormedSlowPath 139 = .ok (.aload_n 0, 1) := by decide +kernel
theorem dX2_isWellFormedSlowPath_140 : decode cX2_isWellFormedSlowPath 140 = .ok (.iload_n 3, 1) := by decide +kernel
theorem dX2_isWellFormedSlowPath_141 : decode cX2_isWellFormedSlowPath 141 = .ok (.iinc 3 1, 3) := by decide +kernel
theorem dX2_isWellFormedSlowPath_144 : decode cX2_isWellFormedSlowPath 144 = .ok (.baload, 1) := by decide +kernel
theorem dX2_isWellFormedSlowPath_145 : decode cX2_isWellFormedSlowPath 145 = .ok (.istore 5, 2) := by decide +kernel
theorem dX2_isWellFormedSlowPath_147 : decode cX2_isWellFormedSlowPath 147 = .ok (.iload 5, 2) := by decide +kernel
theorem dX2_isWellFormedSlowPath_149 : decode cX2_isWellFormedSlowPath 149 = .ok (.bipush (-65), 2) := by decide +kernel
theorem dX2_isWellFormedSlowPath_151 : decode cX2_isWellFormedSlowPath 151 = .ok (.if_icmp .gt 42, 3) := by decide +kernel
theorem dX2_isWellFormedSlowPath_154 : decode cX2_isWellFormedSlowPath 154 = .ok (.iload 4, 2) := by decide +kernel
theorem dX2_isWellFormedSlowPath_156 : decode cX2_isWellFormedSlowPath 156 = .ok (.bipush 28, 2) := by decide +kernel
theorem dX2_isWellFormedSlowPath_158 : decode cX2_isWellFormedSlowPath 158 = .ok (.ishl, 1) := by decide +kernel
theorem dX2_isWellFormedSlowPath_159 : decode cX2_isWellFormedSlowPath 159 = .ok (.iload 5, 2) := by decide +kernel
theorem dX2_isWellFormedSlowPath_161 : decode cX2_isWellFormedSlowPath 161 = .ok (.bipush (-112), 2) := by decide +kernel
theorem dX2_isWellFormedSlowPath_163 : decode cX2_isWellFormedSlowPath 163 = .ok (.isub, 1) := by decide +kernel
theorem dX2_isWellFormedSlowPath_164 : decode cX2_isWellFormedSlowPath 164 = .ok (.iadd, 1) := by decide +kernel
theorem dX2_isWellFormedSlowPath_165 : decode cX2_isWellFormedSlowPath 165 = .ok (.bipush 30, 2) := by decide +kernel
theorem dX2_isWellFormedSlowPath_167 : decode cX2_isWellFormedSlowPath 167 = .ok (.ishr, 1) := by decide +kernel
theorem dX2_isWellFormedSlowPath_168 : decode cX2_isWellFormedSlowPath 168 = .ok (.ifCond .ne 25, 3) := by decide +kernel
theorem dX2_isWellFormedSlowPath_171 : decode cX2_isWellFormedSlowPath 171 = .ok (.aload_n 0, 1) := by decide +kernel
theorem dX2_isWellFormedSlowPath_172 : decode cX2_isWellFormedSlowPath 172 = .ok (.iload_n 3, 1) := by decide +kernel
theorem dX2_isWellFormedSlowPath_173 : decode cX2_isWellFormedSlowPath 173 = .ok (.iinc 3 1, 3) := by decide +kernel
theorem dX2_isWellFormedSlowPath_176 : decode cX2_isWellFormedSlowPath 176 = .ok (.baload, 1) := by decide +kernel
theorem dX2_isWellFormedSlowPath_177 : decode cX2_isWellFormedSlowPath 177 = .ok (.bipush (-65), 2) := by decide +kernel
theorem dX2_isWellFormedSlowPath_179 : decode cX2_isWellFormedSlowPath 179 = .ok (.if_icmp .gt 14, 3) := by decide +kernel
theorem dX2_isWellFormedSlowPath_182 : decode cX2_isWellFormedSlowPath 182 = .ok (.aload_n 0, 1) := by decide +kernel
theorem dX2_isWellFormedSlowPath_183 : decode cX2_isWellFormedSlowPath 183 = .ok (.iload_n 3, 1) := by decide +kernel
theorem dX2_isWellFormedSlowPath_184 : decode cX2_isWellFormedSlowPath 184 = .ok (.iinc 3 1, 3) := by decide +kernel
theorem dX2_isWellFormedSlowPath_187 : decode cX2_isWellFormedSlowPath 187 = .ok (.baload, 1) := by decide +kernel
theorem dX2_isWellFormedSlowPath_188 : decode cX2_isWellFormedSlowPath 188 = .ok (.bipush (-65), 2) := by decide +kernel
theorem dX2_isWellFormedSlowPath_190 : decode cX2_isWellFormedSlowPath 190 = .ok (.if_icmp .le 5, 3) := by decide +kernel
theorem dX2_isWellFormedSlowPath_193 : decode cX2_isWellFormedSlowPath 193 = .ok (.iconst 0, 1) := by decide +kernel
theorem dX2_isWellFormedSlowPath_194 : decode cX2_isWellFormedSlowPath 194 = .ok (.ireturn, 1) := by decide +kernel
theorem dX2_isWellFormedSlowPath_195 : decode cX2_isWellFormedSlowPath 195 = .ok (.goto (-193), 3) := by decide +kernel
theorem q6 : (Jvm.Cond.initialized "Utf8") ∈ lw_all := lw_g (lw_at lw_m0 2 rfl) rfl
theorem q58 : (Jvm.Cond.static ({ cls := "Utf8", name := "isWellFormed", desc := "([BII)Z" } : Jvm.MethodName)) ∈ lw_all := lw_g (lw_at lw_m0 54 rfl) rfl
theorem q59 : (Jvm.Cond.code ({ cls := "Utf8", name := "isWellFormed", desc := "([BII)Z" } : Jvm.MethodName) prog_2_method_1_code (5 : Nat) (Option.some Jvm.ClassFile.FieldType.boolean)) ∈ lw_all := lw_g (lw_at lw_m0 55 rfl) rfl
theorem q60 : (Jvm.Cond.methodLink "Utf8" (1 : Nat) ({ cls := "Preconditions", name := "checkPositionIndexes", desc := "(III)V" } : Jvm.MethodName)) ∈ lw_all := lw_g (lw_at lw_m0 56 rfl) rfl
theorem q128 : (Jvm.Cond.methodLink "Utf8" (7 : Nat) ({ cls := "Utf8", name := "isWellFormedSlowPath", desc := "([BII)Z" } : Jvm.MethodName)) ∈ lw_all := lw_g (lw_at lw_m0 124 rfl) rfl
theorem q129 : (Jvm.Cond.static ({ cls := "Utf8", name := "isWellFormedSlowPath", desc := "([BII)Z" } : Jvm.MethodName)) ∈ lw_all := lw_g (lw_at lw_m0 125 rfl) rfl
theorem q130 : (Jvm.Cond.code ({ cls := "Utf8", name := "isWellFormedSlowPath", desc := "([BII)Z" } : Jvm.MethodName) prog_2_method_2_code (6 : Nat) (Option.some Jvm.ClassFile.FieldType.boolean)) ∈ lw_all := lw_g (lw_at lw_m0 126 rfl) rfl
/-! names: X3.Preconditions -/
def RX3 : String := "Preconditions"
abbrev cX3_checkPositionIndexes : ByteArray := prog_1_method_1_code
def yX3_checkPositionIndexes : MethodName := ⟨RX3, "checkPositionIndexes", "(III)V"⟩
theorem dX3_checkPositionIndexes_0 : decode cX3_checkPositionIndexes 0 = .ok (.iload_n 0, 1) := by decide +kernel
theorem dX3_checkPositionIndexes_1 : decode cX3_checkPositionIndexes 1 = .ok (.ifCond .lt 13, 3) := by decide +kernel
theorem dX3_checkPositionIndexes_4 : decode cX3_checkPositionIndexes 4 = .ok (.iload_n 1, 1) := by decide +kernel
theorem dX3_checkPositionIndexes_5 : decode cX3_checkPositionIndexes 5 = .ok (.iload_n 0, 1) := by decide +kernel
theorem dX3_checkPositionIndexes_6 : decode cX3_checkPositionIndexes 6 = .ok (.if_icmp .lt 8, 3) := by decide +kernel
theorem dX3_checkPositionIndexes_9 : decode cX3_checkPositionIndexes 9 = .ok (.iload_n 1, 1) := by decide +kernel
theorem dX3_checkPositionIndexes_10 : decode cX3_checkPositionIndexes 10 = .ok (.iload_n 2, 1) := by decide +kernel
theorem dX3_checkPositionIndexes_11 : decode cX3_checkPositionIndexes 11 = .ok (.if_icmp .le 13, 3) := by decide +kernel
theorem dX3_checkPositionIndexes_14 : decode cX3_checkPositionIndexes 14 = .ok (.new 1, 3) := by decide +kernel
theorem dX3_checkPositionIndexes_17 : decode cX3_checkPositionIndexes 17 = .ok (.dup, 1) := by decide +kernel
theorem dX3_checkPositionIndexes_18 : decode cX3_checkPositionIndexes 18 = .ok (.ldc 3, 2) := by decide +kernel
theorem dX3_checkPositionIndexes_20 : decode cX3_checkPositionIndexes 20 = .ok (.invokespecial 5, 3) := by decide +kernel
theorem dX3_checkPositionIndexes_23 : decode cX3_checkPositionIndexes 23 = .ok (.athrow, 1) := by decide +kernel
theorem dX3_checkPositionIndexes_24 : decode cX3_checkPositionIndexes 24 = .ok (.return_, 1) := by decide +kernel
theorem q7 : (Jvm.Cond.initialized "Preconditions") ∈ lw_all := lw_g (lw_at lw_m0 3 rfl) rfl
theorem q61 : (Jvm.Cond.static ({ cls := "Preconditions", name := "checkPositionIndexes", desc := "(III)V" } : Jvm.MethodName)) ∈ lw_all := lw_g (lw_at lw_m0 57 rfl) rfl
theorem q62 : (Jvm.Cond.code ({ cls := "Preconditions", name := "checkPositionIndexes", desc := "(III)V" } : Jvm.MethodName) prog_1_method_1_code (3 : Nat) (Option.none : Option Jvm.ClassFile.FieldType)) ∈ lw_all := lw_g (lw_at lw_m0 58 rfl) rfl
theorem q63 : (Jvm.Cond.classLink "Preconditions" (1 : Nat) "java/lang/IndexOutOfBoundsException") ∈ lw_all := lw_g (lw_at lw_m0 59 rfl) rfl
theorem q102 : (Jvm.Cond.stringRef "Preconditions" (3 : Nat) "left out") ∈ lw_tbl := lw_at lw_m0 98 rfl
theorem q103 : (Jvm.Cond.methodLink "Preconditions" (5 : Nat) ({ cls := "java/lang/IndexOutOfBoundsException", name := "<init>", desc := "(Ljava/lang/String;)V" } : Jvm.MethodName)) ∈ lw_all := lw_g (lw_at lw_m0 99 rfl) rfl
end
section
set_option maxRecDepth 100000
/-! names: X0.WireTextLaw -/
def RX0 : String := "WireTextLaw"
abbrev cX0_cell : ByteArray := method_2_code
def yX0_cell : MethodName := ⟨RX0, "cell", "([II)I"⟩
theorem dX0_cell_0 : decode cX0_cell 0 = .ok (.iload_n 1, 1) := by decide +kernel
theorem dX0_cell_1 : decode cX0_cell 1 = .ok (.aload_n 0, 1) := by decide +kernel
theorem dX0_cell_2 : decode cX0_cell 2 = .ok (.arraylength, 1) := by decide +kernel
theorem dX0_cell_3 : decode cX0_cell 3 = .ok (.if_icmp .ge 9, 3) := by decide +kernel
theorem dX0_cell_6 : decode cX0_cell 6 = .ok (.aload_n 0, 1) := by decide +kernel
theorem dX0_cell_7 : decode cX0_cell 7 = .ok (.iload_n 1, 1) := by decide +kernel
theorem dX0_cell_8 : decode cX0_cell 8 = .ok (.iaload, 1) := by decide +kernel
theorem dX0_cell_9 : decode cX0_cell 9 = .ok (.goto 4, 3) := by decide +kernel
theorem dX0_cell_12 : decode cX0_cell 12 = .ok (.iconst 0, 1) := by decide +kernel
theorem dX0_cell_13 : decode cX0_cell 13 = .ok (.ireturn, 1) := by decide +kernel
abbrev cX0_lay : ByteArray := method_3_code
def yX0_lay : MethodName := ⟨RX0, "lay", "(LWireText;II)I"⟩
theorem dX0_lay_0 : decode cX0_lay 0 = .ok (.iload_n 2, 1) := by decide +kernel
theorem dX0_lay_1 : decode cX0_lay 1 = .ok (.iconst 2, 1) := by decide +kernel
theorem dX0_lay_2 : decode cX0_lay 2 = .ok (.iushr, 1) := by decide +kernel
theorem dX0_lay_3 : decode cX0_lay 3 = .ok (.istore_n 3, 1) := by decide +kernel
theorem dX0_lay_4 : decode cX0_lay 4 = .ok (.iload_n 2, 1) := by decide +kernel
theorem dX0_lay_5 : decode cX0_lay 5 = .ok (.iconst 3, 1) := by decide +kernel
theorem dX0_lay_6 : decode cX0_lay 6 = .ok (.iand, 1) := by decide +kernel
theorem dX0_lay_7 : decode cX0_lay 7 = .ok (.ifCond .ne 16, 3) := by decide +kernel
theorem dX0_lay_10 : decode cX0_lay 10 = .ok (.aload_n 0, 1) := by decide +kernel
theorem dX0_lay_11 : decode cX0_lay 11 = .ok (.iload_n 1, 1) := by decide +kernel
theorem dX0_lay_12 : decode cX0_lay 12 = .ok (.iload_n 3, 1) := by decide +kernel
theorem dX0_lay_13 : decode cX0_lay 13 = .ok (.bipush 127, 2) := by decide +kernel
theorem dX0_lay_15 : decode cX0_lay 15 = .ok (.iand, 1) := by decide +kernel
theorem dX0_lay_16 : decode cX0_lay 16 = .ok (.invokevirtual 7, 3) := by decide +kernel
theorem dX0_lay_19 : decode cX0_lay 19 = .ok (.iload_n 1, 1) := by decide +kernel
theorem dX0_lay_20 : decode cX0_lay 20 = .ok (.iconst 1, 1) := by decide +kernel
theorem dX0_lay_21 : decode cX0_lay 21 = .ok (.iadd, 1) := by decide +kernel
theorem dX0_lay_22 : decode cX0_lay 22 = .ok (.ireturn, 1) := by decide +kernel
theorem dX0_lay_23 : decode cX0_lay 23 = .ok (.iload_n 2, 1) := by decide +kernel
theorem dX0_lay_24 : decode cX0_lay 24 = .ok (.iconst 3, 1) := by decide +kernel
theorem dX0_lay_25 : decode cX0_lay 25 = .ok (.iand, 1) := by decide +kernel
theorem dX0_lay_26 : decode cX0_lay 26 = .ok (.iconst 1, 1) := by decide +kernel
theorem dX0_lay_27 : decode cX0_lay 27 = .ok (.if_icmp .ne 45, 3) := by decide +kernel
theorem dX0_lay_30 : decode cX0_lay 30 = .ok (.sipush 128, 3) := by decide +kernel
theorem dX0_lay_33 : decode cX0_lay 33 = .ok (.iload_n 3, 1) := by decide +kernel
theorem dX0_lay_34 : decode cX0_lay 34 = .ok (.sipush 1920, 3) := by decide +kernel
theorem dX0_lay_37 : decode cX0_lay 37 = .ok (.irem, 1) := by decide +kernel
theorem dX0_lay_38 : decode cX0_lay 38 = .ok (.iadd, 1) := by decide +kernel
theorem dX0_lay_39 : decode cX0_lay 39 = .ok (.istore_n 3, 1) := by decide +kernel
theorem dX0_lay_40 : decode cX0_lay 40 = .ok (.aload_n 0, 1) := by decide +kernel
theorem dX0_lay_41 : decode cX0_lay 41 = .ok (.iload_n 1, 1) := by decide +kernel
theorem dX0_lay_42 : decode cX0_lay 42 = .ok (.sipush 192, 3) := by decide +kernel
theorem dX0_lay_45 : decode cX0_lay 45 = .ok (.iload_n 3, 1) := by decide +kernel
theorem dX0_lay_46 : decode cX0_lay 46 = .ok (.bipush 6, 2) := by decide +kernel
theorem dX0_lay_48 : decode cX0_lay 48 = .ok (.ishr, 1) := by decide +kernel
theorem dX0_lay_49 : decode cX0_lay 49 = .ok (.ior, 1) := by decide +kernel
theorem dX0_lay_50 : decode cX0_lay 50 = .ok (.invokevirtual 7, 3) := by decide +kernel
theorem dX0_lay_53 : decode cX0_lay 53 = .ok (.aload_n 0, 1) := by decide +kernel
theorem dX0_lay_54 : decode cX0_lay 54 = .ok (.iload_n 1, 1) := by decide +kernel
theorem dX0_lay_55 : decode cX0_lay 55 = .ok (.iconst 1, 1) := by decide +kernel
theorem dX0_lay_56 : decode cX0_lay 56 = .ok (.iadd, 1) := by decide +kernel
theorem dX0_lay_57 : decode cX0_lay 57 = .ok (.sipush 128, 3) := by decide +kernel
theorem dX0_lay_60 : decode cX0_lay 60 = .ok (.iload_n 3, 1) := by decide +kernel
theorem dX0_lay_61 : decode cX0_lay 61 = .ok (.bipush 63, 2) := by decide +kernel
theorem dX0_lay_63 : decode cX0_lay 63 = .ok (.iand, 1) := by decide +kernel
theorem dX0_lay_64 : decode cX0_lay 64 = .ok (.ior, 1) := by decide +kernel
theorem dX0_lay_65 : decode cX0_lay 65 = .ok (.invokevirtual 7, 3) := by decide +kernel
theorem dX0_lay_68 : decode cX0_lay 68 = .ok (.iload_n 1, 1) := by decide +kernel
theorem dX0_lay_69 : decode cX0_lay 69 = .ok (.iconst 2, 1) := by decide +kernel
theorem dX0_lay_70 : decode cX0_lay 70 = .ok (.iadd, 1) := by decide +kernel
theorem dX0_lay_71 : decode cX0_lay 71 = .ok (.ireturn, 1) := by decide +kernel
theorem dX0_lay_72 : decode cX0_lay 72 = .ok (.iload_n 2, 1) := by decide +kernel
theorem dX0_lay_73 : decode cX0_lay 73 = .ok (.iconst 3, 1) := by decide +kernel
theorem dX0_lay_74 : decode cX0_lay 74 = .ok (.iand, 1) := by decide +kernel
theorem dX0_lay_75 : decode cX0_lay 75 = .ok (.iconst 2, 1) := by decide +kernel
theorem dX0_lay_76 : decode cX0_lay 76 = .ok (.if_icmp .ne 78, 3) := by decide +kernel
theorem dX0_lay_79 : decode cX0_lay 79 = .ok (.sipush 2048, 3) := by decide +kernel
theorem dX0_lay_82 : decode cX0_lay 82 = .ok (.iload_n 3, 1) := by decide +kernel
theorem dX0_lay_83 : decode cX0_lay 83 = .ok (.ldc 13, 2) := by decide +kernel
theorem dX0_lay_85 : decode cX0_lay 85 = .ok (.irem, 1) := by decide +kernel
theorem dX0_lay_86 : decode cX0_lay 86 = .ok (.iadd, 1) := by decide +kernel
theorem dX0_lay_87 : decode cX0_lay 87 = .ok (.istore_n 3, 1) := by decide +kernel
theorem dX0_lay_88 : decode cX0_lay 88 = .ok (.iload_n 3, 1) := by decide +kernel
theorem dX0_lay_89 : decode cX0_lay 89 = .ok (.iload_n 3, 1) := by decide +kernel
theorem dX0_lay_90 : decode cX0_lay 90 = .ok (.ldc 14, 2) := by decide +kernel
theorem dX0_lay_92 : decode cX0_lay 92 = .ok (.if_icmp .lt 9, 3) := by decide +kernel
theorem dX0_lay_95 : decode cX0_lay 95 = .ok (.sipush 2048, 3) := by decide +kernel
theorem dX0_lay_98 : decode cX0_lay 98 = .ok (.goto 4, 3) := by decide +kernel
theorem dX0_lay_101 : decode cX0_lay 101 = .ok (.iconst 0, 1) := by decide +kernel
theorem dX0_lay_102 : decode cX0_lay 102 = .ok (.iadd, 1) := by decide +kernel
theorem dX0_lay_103 : decode cX0_lay 103 = .ok (.istore_n 3, 1) := by decide +kernel
theorem dX0_lay_104 : decode cX0_lay 104 = .ok (.aload_n 0, 1) := by decide +kernel
theorem dX0_lay_105 : decode cX0_lay 105 = .ok (.iload_n 1, 1) := by decide +kernel
theorem dX0_lay_106 : decode cX0_lay 106 = .ok (.sipush 224, 3) := by decide +kernel
theorem dX0_lay_109 : decode cX0_lay 109 = .ok (.iload_n 3, 1) := by decide +kernel
theorem dX0_lay_110 : decode cX0_lay 110 = .ok (.bipush 12, 2) := by decide +kernel
theorem dX0_lay_112 : decode cX0_lay 112 = .ok (.ishr, 1) := by decide +kernel
theorem dX0_lay_113 : decode cX0_lay 113 = .ok (.ior, 1) := by decide +kernel
theorem dX0_lay_114 : decode cX0_lay 114 = .ok (.invokevirtual 7, 3) := by decide +kernel
theorem dX0_lay_117 : decode cX0_lay 117 = .ok (.aload_n 0, 1) := by decide +kernel
theorem dX0_lay_118 : decode cX0_lay 118 = .ok (.iload_n 1, 1) := by decide +kernel
theorem dX0_lay_119 : decode cX0_lay 119 = .ok (.iconst 1, 1) := by decide +kernel
theorem dX0_lay_120 : decode cX0_lay 120 = .ok (.iadd, 1) := by decide +kernel
theorem dX0_lay_121 : decode cX0_lay 121 = .ok (.sipush 128, 3) := by decide +kernel
theorem dX0_lay_124 : decode cX0_lay 124 = .ok (.iload_n 3, 1) := by decide +kernel
theorem dX0_lay_125 : decode cX0_lay 125 = .ok (.bipush 6, 2) := by decide +kernel
theorem dX0_lay_127 : decode cX0_lay 127 = .ok (.ishr, 1) := by decide +kernel
theorem dX0_lay_128 : decode cX0_lay 128 = .ok (.bipush 63, 2) := by decide +kernel
theorem dX0_lay_130 : decode cX0_lay 130 = .ok (.iand, 1) := by decide +kernel
theorem dX0_lay_131 : decode cX0_lay 131 = .ok (.ior, 1) := by decide +kernel
theorem dX0_lay_132 : decode cX0_lay 132 = .ok (.invokevirtual 7, 3) := by decide +kernel
theorem dX0_lay_135 : decode cX0_lay 135 = .ok (.aload_n 0, 1) := by decide +kernel
theorem dX0_lay_136 : decode cX0_lay 136 = .ok (.iload_n 1, 1) := by decide +kernel
theorem dX0_lay_137 : decode cX0_lay 137 = .ok (.iconst 2, 1) := by decide +kernel
theorem dX0_lay_138 : decode cX0_lay 138 = .ok (.iadd, 1) := by decide +kernel
theorem dX0_lay_139 : decode cX0_lay 139 = .ok (.sipush 128, 3) := by decide +kernel
theorem dX0_lay_142 : decode cX0_lay 142 = .ok (.iload_n 3, 1) := by decide +kernel
theorem dX0_lay_143 : decode cX0_lay 143 = .ok (.bipush 63, 2) := by decide +kernel
theorem dX0_lay_145 : decode cX0_lay 145 = .ok (.iand, 1) := by decide +kernel
theorem dX0_lay_146 : decode cX0_lay 146 = .ok (.ior, 1) := by decide +kernel
theorem dX0_lay_147 : decode cX0_lay 147 = .ok (.invokevirtual 7, 3) := by decide +kernel
theorem dX0_lay_150 : decode cX0_lay 150 = .ok (.iload_n 1, 1) := by decide +kernel
theorem dX0_lay_151 : decode cX0_lay 151 = .ok (.iconst 3, 1) := by decide +kernel
theorem dX0_lay_152 : decode cX0_lay 152 = .ok (.iadd, 1) := by decide +kernel
theorem dX0_lay_153 : decode cX0_lay 153 = .ok (.ireturn, 1) := by decide +kernel
theorem dX0_lay_154 : decode cX0_lay 154 = .ok (.ldc 15, 2) := by decide +kernel
theorem dX0_lay_156 : decode cX0_lay 156 = .ok (.iload_n 3, 1) := by decide +kernel
theorem dX0_lay_157 : decode cX0_lay 157 = .ok (.ldc 16, 2) := by decide +kernel
theorem dX0_lay_159 : decode cX0_lay 159 = .ok (.iand, 1) := by decide +kernel
theorem dX0_lay_160 : decode cX0_lay 160 = .ok (.iadd, 1) := by decide +kernel
theorem dX0_lay_161 : decode cX0_lay 161 = .ok (.istore_n 3, 1) := by decide +kernel
theorem dX0_lay_162 : decode cX0_lay 162 = .ok (.aload_n 0, 1) := by decide +kernel
theorem dX0_lay_163 : decode cX0_lay 163 = .ok (.iload_n 1, 1) := by decide +kernel
theorem dX0_lay_164 : decode cX0_lay 164 = .ok (.sipush 240, 3) := by decide +kernel
theorem dX0_lay_167 : decode cX0_lay 167 = .ok (.iload_n 3, 1) := by decide +kernel
theorem dX0_lay_168 : decode cX0_lay 168 = .ok (.bipush 18, 2) := by decide +kernel
theorem dX0_lay_170 : decode cX0_lay 170 = .ok (.ishr, 1) := by decide +kernel
theorem dX0_lay_171 : decode cX0_lay 171 = .ok (.ior, 1) := by decide +kernel
theorem dX0_lay_172 : decode cX0_lay 172 = .ok (.invokevirtual 7, 3) := by decide +kernel
theorem dX0_lay_175 : decode cX0_lay 175 = .ok (.aload_n 0, 1) := by decide +kernel
theorem dX0_lay_176 : decode cX0_lay 176 = .ok (.iload_n 1, 1) := by decide +kernel
theorem dX0_lay_177 : decode cX0_lay 177 = .ok (.iconst 1, 1) := by decide +kernel
theorem dX0_lay_178 : decode cX0_lay 178 = .ok (.iadd, 1) := by decide +kernel
theorem dX0_lay_179 : decode cX0_lay 179 = .ok (.sipush 128, 3) := by decide +kernel
theorem dX0_lay_182 : decode cX0_lay 182 = .ok (.iload_n 3, 1) := by decide +kernel
theorem dX0_lay_183 : decode cX0_lay 183 = .ok (.bipush 12, 2) := by decide +kernel
theorem dX0_lay_185 : decode cX0_lay 185 = .ok (.ishr, 1) := by decide +kernel
theorem dX0_lay_186 : decode cX0_lay 186 = .ok (.bipush 63, 2) := by decide +kernel
theorem dX0_lay_188 : decode cX0_lay 188 = .ok (.iand, 1) := by decide +kernel
theorem dX0_lay_189 : decode cX0_lay 189 = .ok (.ior, 1) := by decide +kernel
theorem dX0_lay_190 : decode cX0_lay 190 = .ok (.invokevirtual 7, 3) := by decide +kernel
theorem dX0_lay_193 : decode cX0_lay 193 = .ok (.aload_n 0, 1) := by decide +kernel
theorem dX0_lay_194 : decode cX0_lay 194 = .ok (.iload_n 1, 1) := by decide +kernel
theorem dX0_lay_195 : decode cX0_lay 195 = .ok (.iconst 2, 1) := by decide +kernel
theorem dX0_lay_196 : decode cX0_lay 196 = .ok (.iadd, 1) := by decide +kernel
theorem dX0_lay_197 : decode cX0_lay 197 = .ok (.sipush 128, 3) := by decide +kernel
theorem dX0_lay_200 : decode cX0_lay 200 = .ok (.iload_n 3, 1) := by decide +kernel
theorem dX0_lay_201 : decode cX0_lay 201 = .ok (.bipush 6, 2) := by decide +kernel
theorem dX0_lay_203 : decode cX0_lay 203 = .ok (.ishr, 1) := by decide +kernel
theorem dX0_lay_204 : decode cX0_lay 204 = .ok (.bipush 63, 2) := by decide +kernel
theorem dX0_lay_206 : decode cX0_lay 206 = .ok (.iand, 1) := by decide +kernel
theorem dX0_lay_207 : decode cX0_lay 207 = .ok (.ior, 1) := by decide +kernel
theorem dX0_lay_208 : decode cX0_lay 208 = .ok (.invokevirtual 7, 3) := by decide +kernel
theorem dX0_lay_211 : decode cX0_lay 211 = .ok (.aload_n 0, 1) := by decide +kernel
theorem dX0_lay_212 : decode cX0_lay 212 = .ok (.iload_n 1, 1) := by decide +kernel
theorem dX0_lay_213 : decode cX0_lay 213 = .ok (.iconst 3, 1) := by decide +kernel
theorem dX0_lay_214 : decode cX0_lay 214 = .ok (.iadd, 1) := by decide +kernel
theorem dX0_lay_215 : decode cX0_lay 215 = .ok (.sipush 128, 3) := by decide +kernel
theorem dX0_lay_218 : decode cX0_lay 218 = .ok (.iload_n 3, 1) := by decide +kernel
theorem dX0_lay_219 : decode cX0_lay 219 = .ok (.bipush 63, 2) := by decide +kernel
theorem dX0_lay_221 : decode cX0_lay 221 = .ok (.iand, 1) := by decide +kernel
theorem dX0_lay_222 : decode cX0_lay 222 = .ok (.ior, 1) := by decide +kernel
theorem dX0_lay_223 : decode cX0_lay 223 = .ok (.invokevirtual 7, 3) := by decide +kernel
theorem dX0_lay_226 : decode cX0_lay 226 = .ok (.iload_n 1, 1) := by decide +kernel
theorem dX0_lay_227 : decode cX0_lay 227 = .ok (.iconst 4, 1) := by decide +kernel
theorem dX0_lay_228 : decode cX0_lay 228 = .ok (.iadd, 1) := by decide +kernel
theorem dX0_lay_229 : decode cX0_lay 229 = .ok (.ireturn, 1) := by decide +kernel
theorem q4 : (Jvm.Cond.initialized "WireTextLaw") ∈ lw_all := lw_g (lw_at lw_m0 0 rfl) rfl
theorem q12 : (Jvm.Cond.classLink "WireTextLaw" (8 : Nat) "WireText") ∈ lw_all := lw_g (lw_at lw_m0 8 rfl) rfl
theorem q14 : (Jvm.Cond.methodLink "WireTextLaw" (17 : Nat) ({ cls := "WireText", name := "<init>", desc := "()V" } : Jvm.MethodName)) ∈ lw_all := lw_g (lw_at lw_m0 10 rfl) rfl
theorem q28 : (Jvm.Cond.methodLink "WireTextLaw" (18 : Nat) ({ cls := "WireText", name := "put", desc := "(IIII)Z" } : Jvm.MethodName)) ∈ lw_all := lw_g (lw_at lw_m0 24 rfl) rfl
theorem q36 : (Jvm.Cond.methodLink "WireTextLaw" (28 : Nat) ({ cls := "WireText", name := "trim", desc := "(I)V" } : Jvm.MethodName)) ∈ lw_all := lw_g (lw_at lw_m0 32 rfl) rfl
theorem q45 : (Jvm.Cond.methodLink "WireTextLaw" (32 : Nat) ({ cls := "WireText", name := "size", desc := "()I" } : Jvm.MethodName)) ∈ lw_all := lw_g (lw_at lw_m0 41 rfl) rfl
theorem q49 : (Jvm.Cond.methodLink "WireTextLaw" (36 : Nat) ({ cls := "WireText", name := "fair", desc := "(II)Z" } : Jvm.MethodName)) ∈ lw_all := lw_g (lw_at lw_m0 45 rfl) rfl
theorem q131 : (Jvm.Cond.methodLink "WireTextLaw" (7 : Nat) ({ cls := "WireText", name := "sign", desc := "(II)V" } : Jvm.MethodName)) ∈ lw_all := lw_g (lw_at lw_m0 127 rfl) rfl
theorem q135 : (Jvm.Cond.methodLink "WireTextLaw" (40 : Nat) ({ cls := "WireTextLaw", name := "cell", desc := "([II)I" } : Jvm.MethodName)) ∈ lw_all := lw_g (lw_at lw_m0 131 rfl) rfl
theorem q136 : (Jvm.Cond.static ({ cls := "WireTextLaw", name := "cell", desc := "([II)I" } : Jvm.MethodName)) ∈ lw_all := lw_g (lw_at lw_m0 132 rfl) rfl
theorem q137 : (Jvm.Cond.code ({ cls := "WireTextLaw", name := "cell", desc := "([II)I" } : Jvm.MethodName) method_2_code (2 : Nat) (Option.some Jvm.ClassFile.FieldType.int)) ∈ lw_all := lw_g (lw_at lw_m0 133 rfl) rfl
theorem q138 : (Jvm.Cond.methodLink "WireTextLaw" (22 : Nat) ({ cls := "WireTextLaw", name := "lay", desc := "(LWireText;II)I" } : Jvm.MethodName)) ∈ lw_all := lw_g (lw_at lw_m0 134 rfl) rfl
theorem q139 : (Jvm.Cond.static ({ cls := "WireTextLaw", name := "lay", desc := "(LWireText;II)I" } : Jvm.MethodName)) ∈ lw_all := lw_g (lw_at lw_m0 135 rfl) rfl
theorem q140 : (Jvm.Cond.code ({ cls := "WireTextLaw", name := "lay", desc := "(LWireText;II)I" } : Jvm.MethodName) method_3_code (4 : Nat) (Option.some Jvm.ClassFile.FieldType.int)) ∈ lw_all := lw_g (lw_at lw_m0 136 rfl) rfl
theorem q141 : (Jvm.Cond.constant "WireTextLaw" (13 : Nat) (61440 : Int32)) ∈ lw_all := lw_g (lw_at lw_m0 137 rfl) rfl
theorem q142 : (Jvm.Cond.constant "WireTextLaw" (14 : Nat) (55296 : Int32)) ∈ lw_all := lw_g (lw_at lw_m0 138 rfl) rfl
theorem q143 : (Jvm.Cond.constant "WireTextLaw" (15 : Nat) (65536 : Int32)) ∈ lw_all := lw_g (lw_at lw_m0 139 rfl) rfl
theorem q144 : (Jvm.Cond.constant "WireTextLaw" (16 : Nat) (1048575 : Int32)) ∈ lw_all := lw_g (lw_at lw_m0 140 rfl) rfl
theorem q145 : (Jvm.Cond.constant "WireTextLaw" (44 : Nat) (2147483647 : Int32)) ∈ lw_all := lw_g (lw_at lw_m0 141 rfl) rfl
end
section
set_option maxRecDepth 100000
/-! names: L.law -/
abbrev cL_law : ByteArray := code
theorem dL_law_0 : decode cL_law 0 = .ok (.new 8, 3) := by decide +kernel
theorem dL_law_3 : decode cL_law 3 = .ok (.dup, 1) := by decide +kernel
theorem dL_law_4 : decode cL_law 4 = .ok (.invokespecial 17, 3) := by decide +kernel
theorem dL_law_7 : decode cL_law 7 = .ok (.astore_n 1, 1) := by decide +kernel
theorem dL_law_8 : decode cL_law 8 = .ok (.iconst 0, 1) := by decide +kernel
theorem dL_law_9 : decode cL_law 9 = .ok (.istore_n 2, 1) := by decide +kernel
theorem dL_law_10 : decode cL_law 10 = .ok (.iload_n 2, 1) := by decide +kernel
theorem dL_law_11 : decode cL_law 11 = .ok (.bipush 10, 2) := by decide +kernel
theorem dL_law_13 : decode cL_law 13 = .ok (.if_icmp .ge 22, 3) := by decide +kernel
theorem dL_law_16 : decode cL_law 16 = .ok (.aload_n 1, 1) := by decide +kernel
theorem dL_law_17 : decode cL_law 17 = .ok (.iconst 0, 1) := by decide +kernel
theorem dL_law_18 : decode cL_law 18 = .ok (.iconst 0, 1) := by decide +kernel
theorem dL_law_19 : decode cL_law 19 = .ok (.iconst 0, 1) := by decide +kernel
theorem dL_law_20 : decode cL_law 20 = .ok (.iconst 0, 1) := by decide +kernel
theorem dL_law_21 : decode cL_law 21 = .ok (.invokevirtual 18, 3) := by decide +kernel
theorem dL_law_24 : decode cL_law 24 = .ok (.ifCond .ne 5, 3) := by decide +kernel
theorem dL_law_27 : decode cL_law 27 = .ok (.iconst 0, 1) := by decide +kernel
theorem dL_law_28 : decode cL_law 28 = .ok (.ireturn, 1) := by decide +kernel
theorem dL_law_29 : decode cL_law 29 = .ok (.iinc 2 1, 3) := by decide +kernel
theorem dL_law_32 : decode cL_law 32 = .ok (.goto (-22), 3) := by decide +kernel
theorem dL_law_35 : decode cL_law 35 = .ok (.iconst 0, 1) := by decide +kernel
theorem dL_law_36 : decode cL_law 36 = .ok (.istore_n 2, 1) := by decide +kernel
theorem dL_law_37 : decode cL_law 37 = .ok (.iconst 3, 1) := by decide +kernel
theorem dL_law_38 : decode cL_law 38 = .ok (.istore_n 3, 1) := by decide +kernel
theorem dL_law_39 : decode cL_law 39 = .ok (.iload_n 3, 1) := by decide +kernel
theorem dL_law_40 : decode cL_law 40 = .ok (.aload_n 0, 1) := by decide +kernel
theorem dL_law_41 : decode cL_law 41 = .ok (.arraylength, 1) := by decide +kernel
theorem dL_law_42 : decode cL_law 42 = .ok (.if_icmp .ge 25, 3) := by decide +kernel
theorem dL_law_45 : decode cL_law 45 = .ok (.iload_n 2, 1) := by decide +kernel
theorem dL_law_46 : decode cL_law 46 = .ok (.sipush 156, 3) := by decide +kernel
theorem dL_law_49 : decode cL_law 49 = .ok (.if_icmp .gt 18, 3) := by decide +kernel
theorem dL_law_52 : decode cL_law 52 = .ok (.aload_n 1, 1) := by decide +kernel
theorem dL_law_53 : decode cL_law 53 = .ok (.iload_n 2, 1) := by decide +kernel
theorem dL_law_54 : decode cL_law 54 = .ok (.aload_n 0, 1) := by decide +kernel
theorem dL_law_55 : decode cL_law 55 = .ok (.iload_n 3, 1) := by decide +kernel
theorem dL_law_56 : decode cL_law 56 = .ok (.iaload, 1) := by decide +kernel
theorem dL_law_57 : decode cL_law 57 = .ok (.invokestatic 22, 3) := by decide +kernel
theorem dL_law_60 : decode cL_law 60 = .ok (.istore_n 2, 1) := by decide +kernel
theorem dL_law_61 : decode cL_law 61 = .ok (.iinc 3 1, 3) := by decide +kernel
theorem dL_law_64 : decode cL_law 64 = .ok (.goto (-25), 3) := by decide +kernel
theorem dL_law_67 : decode cL_law 67 = .ok (.aload_n 1, 1) := by decide +kernel
theorem dL_law_68 : decode cL_law 68 = .ok (.iload_n 2, 1) := by decide +kernel
theorem dL_law_69 : decode cL_law 69 = .ok (.invokevirtual 28, 3) := by decide +kernel
theorem dL_law_72 : decode cL_law 72 = .ok (.aload_n 1, 1) := by decide +kernel
theorem dL_law_73 : decode cL_law 73 = .ok (.invokevirtual 32, 3) := by decide +kernel
theorem dL_law_76 : decode cL_law 76 = .ok (.iload_n 2, 1) := by decide +kernel
theorem dL_law_77 : decode cL_law 77 = .ok (.if_icmp .ne 12, 3) := by decide +kernel
theorem dL_law_80 : decode cL_law 80 = .ok (.aload_n 1, 1) := by decide +kernel
theorem dL_law_81 : decode cL_law 81 = .ok (.iconst 0, 1) := by decide +kernel
theorem dL_law_82 : decode cL_law 82 = .ok (.iload_n 2, 1) := by decide +kernel
theorem dL_law_83 : decode cL_law 83 = .ok (.invokevirtual 36, 3) := by decide +kernel
theorem dL_law_86 : decode cL_law 86 = .ok (.ifCond .ne 5, 3) := by decide +kernel
theorem dL_law_89 : decode cL_law 89 = .ok (.iconst 0, 1) := by decide +kernel
theorem dL_law_90 : decode cL_law 90 = .ok (.ireturn, 1) := by decide +kernel
theorem dL_law_91 : decode cL_law 91 = .ok (.aload_n 0, 1) := by decide +kernel
theorem dL_law_92 : decode cL_law 92 = .ok (.iconst 0, 1) := by decide +kernel
theorem dL_law_93 : decode cL_law 93 = .ok (.invokestatic 40, 3) := by decide +kernel
theorem dL_law_96 : decode cL_law 96 = .ok (.iconst 1, 1) := by decide +kernel
theorem dL_law_97 : decode cL_law 97 = .ok (.iand, 1) := by decide +kernel
theorem dL_law_98 : decode cL_law 98 = .ok (.iconst 1, 1) := by decide +kernel
theorem dL_law_99 : decode cL_law 99 = .ok (.if_icmp .ne 19, 3) := by decide +kernel
theorem dL_law_102 : decode cL_law 102 = .ok (.aload_n 1, 1) := by decide +kernel
theorem dL_law_103 : decode cL_law 103 = .ok (.aload_n 0, 1) := by decide +kernel
theorem dL_law_104 : decode cL_law 104 = .ok (.iconst 0, 1) := by decide +kernel
theorem dL_law_105 : decode cL_law 105 = .ok (.invokestatic 40, 3) := by decide +kernel
theorem dL_law_108 : decode cL_law 108 = .ok (.iconst 1, 1) := by decide +kernel
theorem dL_law_109 : decode cL_law 109 = .ok (.ishr, 1) := by decide +kernel
theorem dL_law_110 : decode cL_law 110 = .ok (.aload_n 0, 1) := by decide +kernel
theorem dL_law_111 : decode cL_law 111 = .ok (.iconst 1, 1) := by decide +kernel
theorem dL_law_112 : decode cL_law 112 = .ok (.invokestatic 40, 3) := by decide +kernel
theorem dL_law_115 : decode cL_law 115 = .ok (.invokevirtual 7, 3) := by decide +kernel
theorem dL_law_118 : decode cL_law 118 = .ok (.aload_n 0, 1) := by decide +kernel
theorem dL_law_119 : decode cL_law 119 = .ok (.iconst 2, 1) := by decide +kernel
theorem dL_law_120 : decode cL_law 120 = .ok (.invokestatic 40, 3) := by decide +kernel
theorem dL_law_123 : decode cL_law 123 = .ok (.ldc 44, 2) := by decide +kernel
theorem dL_law_125 : decode cL_law 125 = .ok (.iand, 1) := by decide +kernel
theorem dL_law_126 : decode cL_law 126 = .ok (.iload_n 2, 1) := by decide +kernel
theorem dL_law_127 : decode cL_law 127 = .ok (.iconst 1, 1) := by decide +kernel
theorem dL_law_128 : decode cL_law 128 = .ok (.iadd, 1) := by decide +kernel
theorem dL_law_129 : decode cL_law 129 = .ok (.irem, 1) := by decide +kernel
theorem dL_law_130 : decode cL_law 130 = .ok (.istore_n 3, 1) := by decide +kernel
theorem dL_law_131 : decode cL_law 131 = .ok (.aload_n 1, 1) := by decide +kernel
theorem dL_law_132 : decode cL_law 132 = .ok (.iconst 0, 1) := by decide +kernel
theorem dL_law_133 : decode cL_law 133 = .ok (.iload_n 2, 1) := by decide +kernel
theorem dL_law_134 : decode cL_law 134 = .ok (.invokevirtual 36, 3) := by decide +kernel
theorem dL_law_137 : decode cL_law 137 = .ok (.ifCond .eq 7, 3) := by decide +kernel
theorem dL_law_140 : decode cL_law 140 = .ok (.iconst 1, 1) := by decide +kernel
theorem dL_law_141 : decode cL_law 141 = .ok (.goto 4, 3) := by decide +kernel
theorem dL_law_144 : decode cL_law 144 = .ok (.iconst 0, 1) := by decide +kernel
theorem dL_law_145 : decode cL_law 145 = .ok (.aload_n 1, 1) := by decide +kernel
theorem dL_law_146 : decode cL_law 146 = .ok (.iconst 0, 1) := by decide +kernel
theorem dL_law_147 : decode cL_law 147 = .ok (.iload_n 3, 1) := by decide +kernel
theorem dL_law_148 : decode cL_law 148 = .ok (.invokevirtual 36, 3) := by decide +kernel
theorem dL_law_151 : decode cL_law 151 = .ok (.ifCond .eq 7, 3) := by decide +kernel
theorem dL_law_154 : decode cL_law 154 = .ok (.iconst 1, 1) := by decide +kernel
theorem dL_law_155 : decode cL_law 155 = .ok (.goto 4, 3) := by decide +kernel
theorem dL_law_158 : decode cL_law 158 = .ok (.iconst 0, 1) := by decide +kernel
theorem dL_law_159 : decode cL_law 159 = .ok (.iadd, 1) := by decide +kernel
theorem dL_law_160 : decode cL_law 160 = .ok (.aload_n 1, 1) := by decide +kernel
theorem dL_law_161 : decode cL_law 161 = .ok (.iload_n 3, 1) := by decide +kernel
theorem dL_law_162 : decode cL_law 162 = .ok (.iload_n 2, 1) := by decide +kernel
theorem dL_law_163 : decode cL_law 163 = .ok (.iload_n 3, 1) := by decide +kernel
theorem dL_law_164 : decode cL_law 164 = .ok (.isub, 1) := by decide +kernel
theorem dL_law_165 : decode cL_law 165 = .ok (.invokevirtual 36, 3) := by decide +kernel
theorem dL_law_168 : decode cL_law 168 = .ok (.ifCond .eq 7, 3) := by decide +kernel
theorem dL_law_171 : decode cL_law 171 = .ok (.iconst 1, 1) := by decide +kernel
theorem dL_law_172 : decode cL_law 172 = .ok (.goto 4, 3) := by decide +kernel
theorem dL_law_175 : decode cL_law 175 = .ok (.iconst 0, 1) := by decide +kernel
theorem dL_law_176 : decode cL_law 176 = .ok (.iadd, 1) := by decide +kernel
theorem dL_law_177 : decode cL_law 177 = .ok (.istore 4, 2) := by decide +kernel
theorem dL_law_179 : decode cL_law 179 = .ok (.iload 4, 2) := by decide +kernel
theorem dL_law_181 : decode cL_law 181 = .ok (.iconst 2, 1) := by decide +kernel
theorem dL_law_182 : decode cL_law 182 = .ok (.if_icmp .eq 7, 3) := by decide +kernel
theorem dL_law_185 : decode cL_law 185 = .ok (.iconst 1, 1) := by decide +kernel
theorem dL_law_186 : decode cL_law 186 = .ok (.goto 4, 3) := by decide +kernel
theorem dL_law_189 : decode cL_law 189 = .ok (.iconst 0, 1) := by decide +kernel
theorem dL_law_190 : decode cL_law 190 = .ok (.ireturn, 1) := by decide +kernel
end
section
/-! PLAIN LAWS of well-formed UTF-8, no program in sight. u8_L f i k: a letter of k bytes stands at i; u8_W f i e: from i to e there are whole letters -/
def u8_L (f : Nat → Int32) (i k : Nat) : Prop :=
  (k = 1 ∧ 0 ≤ f i) ∨
  (k = 2 ∧ ¬ 0 ≤ f i ∧ ¬ -32 ≤ f i ∧ ¬ f i < -62 ∧ f (i + 1) ≤ -65) ∨
  (k = 3 ∧ ¬ 0 ≤ f i ∧ -32 ≤ f i ∧ ¬ -16 ≤ f i ∧ ¬ -65 < f (i + 1) ∧ (f i = -32 → ¬ f (i + 1) < -96) ∧ (f i = -19 → ¬ -96 ≤ f (i + 1)) ∧ f (i + 2) ≤ -65) ∨
  (k = 4 ∧ ¬ 0 ≤ f i ∧ -32 ≤ f i ∧ -16 ≤ f i ∧ ¬ -65 < f (i + 1) ∧ ((f i <<< ((28 : Int32) &&& 31)) + (f (i + 1) - (-112))) >>> ((30 : Int32) &&& 31) = 0 ∧ ¬ -65 < f (i + 2) ∧ f (i + 3) ≤ -65)
def u8_wf (f : Nat → Int32) (e : Nat) : Nat → Nat → Prop
  | 0, i => i = e
  | n + 1, i => i = e ∨ ∃ k, u8_L f i k ∧ i + k ≤ e ∧ u8_wf f e n (i + k)
def u8_W (f : Nat → Int32) (i e : Nat) : Prop := ∃ n, u8_wf f e n i
theorem u8_pos {f : Nat → Int32} {i k : Nat} (h : u8_L f i k) : 0 < k ∧ k ≤ 4 := by
  rcases h with ⟨rfl, -⟩ | ⟨rfl, -⟩ | ⟨rfl, -⟩ | ⟨rfl, -⟩ <;> decide
theorem u8_1 {f : Nat → Int32} {i k : Nat} (h0 : 0 ≤ f i) (h : u8_L f i k) : k = 1 := by
  rcases h with ⟨rfl, -⟩ | ⟨rfl, g, -⟩ | ⟨rfl, g, -⟩ | ⟨rfl, g, -⟩
  · rfl
  · exact absurd h0 g
  · exact absurd h0 g
  · exact absurd h0 g
theorem u8_2 {f : Nat → Int32} {i k : Nat} (h0 : ¬ 0 ≤ f i) (h1 : ¬ -32 ≤ f i) (h : u8_L f i k) : k = 2 ∧ ¬ f i < -62 ∧ f (i + 1) ≤ -65 := by
  rcases h with ⟨rfl, g⟩ | ⟨rfl, -, -, g⟩ | ⟨rfl, -, g, -⟩ | ⟨rfl, -, g, -⟩
  · exact absurd g h0
  · exact ⟨rfl, g⟩
  · exact absurd g h1
  · exact absurd g h1
theorem u8_3 {f : Nat → Int32} {i k : Nat} (h0 : ¬ 0 ≤ f i) (h1 : -32 ≤ f i) (h2 : ¬ -16 ≤ f i) (h : u8_L f i k) : k = 3 ∧ ¬ -65 < f (i + 1) ∧ (f i = -32 → ¬ f (i + 1) < -96) ∧ (f i = -19 → ¬ -96 ≤ f (i + 1)) ∧ f (i + 2) ≤ -65 := by
  rcases h with ⟨rfl, g⟩ | ⟨rfl, -, g, -⟩ | ⟨rfl, -, -, -, g⟩ | ⟨rfl, -, -, g, -⟩
  · exact absurd g h0
  · exact absurd h1 g
  · exact ⟨rfl, g⟩
  · exact absurd g h2
theorem u8_4 {f : Nat → Int32} {i k : Nat} (h0 : ¬ 0 ≤ f i) (h1 : -32 ≤ f i) (h2 : -16 ≤ f i) (h : u8_L f i k) : k = 4 ∧ ¬ -65 < f (i + 1) ∧ ((f i <<< ((28 : Int32) &&& 31)) + (f (i + 1) - (-112))) >>> ((30 : Int32) &&& 31) = 0 ∧ ¬ -65 < f (i + 2) ∧ f (i + 3) ≤ -65 := by
  rcases h with ⟨rfl, g⟩ | ⟨rfl, -, g, -⟩ | ⟨rfl, -, -, g, -⟩ | ⟨rfl, -, -, -, g⟩
  · exact absurd g h0
  · exact absurd h1 g
  · exact absurd h2 g
  · exact ⟨rfl, g⟩
theorem u8_det {f : Nat → Int32} {i k k' : Nat} (h : u8_L f i k) (h' : u8_L f i k') : k = k' := by
  rcases h with ⟨rfl, a⟩ | ⟨rfl, a, b, -⟩ | ⟨rfl, a, b, c, -⟩ | ⟨rfl, a, b, c, -⟩
  · exact (u8_1 a h').symm
  · exact (u8_2 a b h').1.symm
  · exact (u8_3 a b c h').1.symm
  · exact (u8_4 a b c h').1.symm
theorem u8_cont {f : Nat → Int32} {i k j : Nat} (h : u8_L f i k) (h0 : 0 < j) (hj : j < k) : f (i + j) ≤ -65 := by
  rcases h with ⟨rfl, -⟩ | ⟨rfl, -, -, -, a⟩ | ⟨rfl, -, -, -, a, -, -, b⟩ | ⟨rfl, -, -, -, a, -, b, c⟩
  · omega
  · rw [show j = 1 by omega]; exact a
  · rcases (show j = 1 ∨ j = 2 by omega) with rfl | rfl
    · exact Int32.not_lt.mp a
    · exact b
  · rcases (show j = 1 ∨ j = 2 ∨ j = 3 by omega) with rfl | rfl | rfl
    · exact Int32.not_lt.mp a
    · exact Int32.not_lt.mp b
    · exact c
theorem u8_low {x : Int32} (h : x ≤ -65) : ¬ 0 ≤ x ∧ ¬ -32 ≤ x ∧ x < -62 := by
  have e1 : (-65 : Int32).toInt = -65 := by decide
  have e2 : (0 : Int32).toInt = 0 := by decide
  have e3 : (-32 : Int32).toInt = -32 := by decide
  have e4 : (-62 : Int32).toInt = -62 := by decide
  rw [Int32.le_iff_toInt_le, e1] at h
  rw [Int32.le_iff_toInt_le, Int32.le_iff_toInt_le, Int32.lt_iff_toInt_lt, e2, e3, e4]
  omega
theorem u8_head {f : Nat → Int32} {i k : Nat} (h : f i ≤ -65) : ¬ u8_L f i k := fun g => by
  obtain ⟨a, b, c⟩ := u8_low h
  exact (u8_2 a b g).2.1 c
theorem u8_le {f : Nat → Int32} {i e : Nat} (h : u8_W f i e) : i ≤ e := by
  obtain ⟨n, h⟩ := h
  cases n with
  | zero => exact Nat.le_of_eq h
  | succ n =>
    rcases h with h | ⟨k, -, h, -⟩
    · exact Nat.le_of_eq h
    · omega
theorem u8_refl {f : Nat → Int32} {i : Nat} : u8_W f i i := ⟨0, rfl⟩
theorem u8_cons {f : Nat → Int32} {i k e : Nat} (h : u8_L f i k) (g : u8_W f (i + k) e) : u8_W f i e := by
  have hle := u8_le g
  obtain ⟨n, g⟩ := g
  exact ⟨n + 1, Or.inr ⟨k, h, hle, g⟩⟩
theorem u8_cases {f : Nat → Int32} {i e : Nat} (h : u8_W f i e) : i = e ∨ ∃ k, u8_L f i k ∧ i + k ≤ e ∧ u8_W f (i + k) e := by
  obtain ⟨n, h⟩ := h
  cases n with
  | zero => exact Or.inl h
  | succ n =>
    rcases h with h | ⟨k, a, b, h⟩
    · exact Or.inl h
    · exact Or.inr ⟨k, a, b, n, h⟩
theorem u8_no {f : Nat → Int32} {i e : Nat} (hi : i < e) (h : ∀ k, u8_L f i k → ¬ i + k ≤ e) : ¬ u8_W f i e := by
  intro g
  rcases u8_cases g with g | ⟨k, a, b, -⟩
  · omega
  · exact h k a b
theorem u8_step {f : Nat → Int32} {i k e : Nat} (h : u8_L f i k) : u8_W f i e ↔ i = e ∨ u8_W f (i + k) e := by
  constructor
  · intro g
    rcases u8_cases g with g | ⟨k', a, -, g⟩
    · exact Or.inl g
    · rw [u8_det h a]; exact Or.inr g
  · rintro (rfl | g)
    · exact u8_refl
    · exact u8_cons h g
theorem u8_adv {f : Nat → Int32} {i k e : Nat} (h : u8_L f i k) (hi : i < e) : u8_W f (i + k) e ↔ u8_W f i e := by
  rw [u8_step h]
  exact ⟨Or.inr, fun g => g.resolve_left (by omega)⟩
/-- two well-formed runs, one behind the other -/
theorem u8_app {f : Nat → Int32} {e : Nat} : ∀ (n a b : Nat), u8_wf f b n a → u8_W f b e → u8_W f a e := by
  intro n
  induction n with
  | zero =>
    intro a b h g
    have h : a = b := h
    rw [h]; exact g
  | succ n ih =>
    intro a b h g
    rcases h with h | ⟨k, hk, -, h⟩
    · rw [h]; exact g
    · exact u8_cons hk (ih _ _ h g)
theorem u8_cat {f : Nat → Int32} {a b e : Nat} (h : u8_W f a b) (g : u8_W f b e) : u8_W f a e := by
  obtain ⟨n, h⟩ := h
  exact u8_app n a b h g
/-- the whole and its first part: the second -/
theorem u8_sec0 {f : Nat → Int32} {e : Nat} : ∀ (n a b : Nat), u8_wf f b n a → b ≤ e → u8_W f a e → u8_W f b e := by
  intro n
  induction n with
  | zero =>
    intro a b h _ g
    have h : a = b := h
    rw [← h]; exact g
  | succ n ih =>
    intro a b h hb g
    rcases h with h | ⟨k, hk, hle, h⟩
    · rw [← h]; exact g
    · have hp := (u8_pos hk).1
      exact ih _ _ h hb ((u8_adv hk (by omega)).mpr g)
theorem u8_sec {f : Nat → Int32} {a b e : Nat} (h : u8_W f a b) (hb : b ≤ e) (g : u8_W f a e) : u8_W f b e := by
  obtain ⟨n, h⟩ := h
  exact u8_sec0 n a b h hb g
/-- the whole and its second part: the first -/
theorem u8_fst0 {f : Nat → Int32} {b e : Nat} (g : u8_W f b e) : ∀ (n a : Nat), a ≤ b → u8_wf f e n a → u8_W f a b := by
  have hbe := u8_le g
  intro n
  induction n with
  | zero =>
    intro a hab h
    have h : a = e := h
    rw [show a = b by omega]; exact u8_refl
  | succ n ih =>
    intro a hab h
    rcases h with h | ⟨k, hk, hle, h⟩
    · rw [show a = b by omega]; exact u8_refl
    · rcases Nat.lt_or_ge b (a + k) with q | q
      · rcases Nat.eq_or_lt_of_le hab with r | r
        · rw [r]; exact u8_refl
        · have hc := u8_cont hk (j := b - a) (by omega) (by omega)
          rw [show a + (b - a) = b by omega] at hc
          exact absurd g (u8_no (by omega) (fun k' hk' _ => u8_head hc hk'))
      · exact u8_cons hk (ih _ q h)
theorem u8_fst {f : Nat → Int32} {a b e : Nat} (hab : a ≤ b) (h : u8_W f a e) (g : u8_W f b e) : u8_W f a b := by
  obtain ⟨n, h⟩ := h
  exact u8_fst0 g n a hab h
/-- what stands ahead of e alone counts -/
theorem u8_Lsame {f g : Nat → Int32} {i k e : Nat} (hs : ∀ j, j < e → g j = f j) (hk : i + k ≤ e) (h : u8_L f i k) : u8_L g i k := by
  rcases h with ⟨rfl, h⟩ | ⟨rfl, h⟩ | ⟨rfl, h⟩ | ⟨rfl, h⟩
  · exact Or.inl ⟨rfl, by rw [hs i (by omega)]; exact h⟩
  · exact Or.inr (Or.inl ⟨rfl, by rw [hs i (by omega), hs (i + 1) (by omega)]; exact h⟩)
  · exact Or.inr (Or.inr (Or.inl ⟨rfl, by rw [hs i (by omega), hs (i + 1) (by omega), hs (i + 2) (by omega)]; exact h⟩))
  · exact Or.inr (Or.inr (Or.inr ⟨rfl, by rw [hs i (by omega), hs (i + 1) (by omega), hs (i + 2) (by omega), hs (i + 3) (by omega)]; exact h⟩))
theorem u8_same0 {f g : Nat → Int32} {e : Nat} (hs : ∀ j, j < e → g j = f j) : ∀ (n i : Nat), u8_wf f e n i → u8_wf g e n i := by
  intro n
  induction n with
  | zero => intro i h; exact h
  | succ n ih =>
    intro i h
    rcases h with h | ⟨k, hk, hle, h⟩
    · exact Or.inl h
    · exact Or.inr ⟨k, u8_Lsame hs hle hk, hle, ih _ h⟩
theorem u8_same {f g : Nat → Int32} {i e : Nat} (hs : ∀ j, j < e → g j = f j) (h : u8_W f i e) : u8_W g i e := by
  obtain ⟨n, h⟩ := h
  exact ⟨n, u8_same0 hs n i h⟩
/-- what Guava answers of the bytes from i to e -/
noncomputable def u8_r (f : Nat → Int32) (i e : Nat) : Int32 := @ite Int32 (u8_W f i e) (Classical.propDecidable _) 1 0
theorem u8_r1 {f : Nat → Int32} {i e : Nat} (h : u8_W f i e) : u8_r f i e = 1 := by unfold u8_r; rw [if_pos h]
theorem u8_r0 {f : Nat → Int32} {i e : Nat} (h : ¬ u8_W f i e) : u8_r f i e = 0 := by unfold u8_r; rw [if_neg h]
theorem u8_rc (f : Nat → Int32) (i e : Nat) : (u8_r f i e = 1 ∧ u8_W f i e) ∨ (u8_r f i e = 0 ∧ ¬ u8_W f i e) := by
  by_cases h : u8_W f i e
  · exact Or.inl ⟨u8_r1 h, h⟩
  · exact Or.inr ⟨u8_r0 h, h⟩
theorem u8_radv {f : Nat → Int32} {i k e : Nat} (h : u8_L f i k) (hi : i < e) : u8_r f (i + k) e = u8_r f i e := by
  by_cases g : u8_W f i e
  · rw [u8_r1 g, u8_r1 ((u8_adv h hi).mpr g)]
  · rw [u8_r0 g, u8_r0 (fun q => g ((u8_adv h hi).mp q))]
/-- the law's own sum: never two of the three -/
theorem u8_sum (f : Nat → Int32) {k n : Nat} (hk : k ≤ n) : ¬ u8_r f 0 n + u8_r f 0 k + u8_r f k n = 2 := by
  rcases u8_rc f 0 n with ⟨e1, h1⟩ | ⟨e1, h1⟩ <;> rcases u8_rc f 0 k with ⟨e2, h2⟩ | ⟨e2, h2⟩ <;> rcases u8_rc f k n with ⟨e3, h3⟩ | ⟨e3, h3⟩ <;> rw [e1, e2, e3]
  · decide
  · exact absurd (u8_sec h2 hk h1) h3
  · exact absurd (u8_fst (Nat.zero_le k) h1 h3) h2
  · decide
  · exact absurd (u8_cat h2 h3) h1
  · decide
  · decide
  · decide
end
section
/-! THE WORLD of one WireText: its cell h0 (text: h1, size: n) and its byte array h1 of 4096 places that hold f; and the rows that read and call in it -/
abbrev vwCl : List vw_C := [(RX1, TX1, 2)]
abbrev wt (h0 h1 : Nat) (d : ClassId) (f : Nat → Int32) (n : Int32) : va_W := [(h0, .inr (0, [.ref h1, .int n])), (h1, .inl (d, 4096, .inl f))]
/-- a reader's start -/
def wt_R (dC : Nat → ClassId) (dI : Nat → Nat → Nat) (h0 h1 : Nat) (d : ClassId) (f : Nat → Int32) (n : Int32) (U : State) : Prop :=
  va_P (dC, dI) vwCl (wt h0 h1 d f n) U.heap ∧ va_K (dC, dI) vwCl [(d, .byte)] U
/-- a writer's start -/
def wt_U (dC : Nat → ClassId) (dI : Nat → Nat → Nat) (h0 h1 : Nat) (d : ClassId) (f : Nat → Int32) (n : Int32) (sz : Nat) (U : State) : Prop :=
  U.heap.size = sz ∧ va_P (dC, dI) vwCl (wt h0 h1 d f n) U.heap ∧ va_K (dC, dI) vwCl [(d, .byte)] U ∧ va_D (fun _ => True) (wt h0 h1 d f n)
/-- a writer's end: the array holds f', the size is n' -/
def wt_B (dC : Nat → ClassId) (dI : Nat → Nat → Nat) (h0 h1 : Nat) (d : ClassId) (A : Nat → Prop) (u : (Nat → Int32) × Int32) (t : State) : Prop :=
  va_P (dC, dI) vwCl (wt h0 h1 d u.1 u.2) t.heap ∧ va_K (dC, dI) vwCl [(d, .byte)] t ∧ va_D A (wt h0 h1 d u.1 u.2)
/-- the byte array alone -/
def ut_R (dC : Nat → ClassId) (dI : Nat → Nat → Nat) (h1 : Nat) (d : ClassId) (f : Nat → Int32) (U : State) : Prop :=
  va_P (dC, dI) vwCl [(h1, .inl (d, 4096, .inl f))] U.heap ∧ va_K (dC, dI) vwCl [(d, .byte)] U
section WT
variable {p : Program} {l : Launch} {e : Env} {R : Room} {s : State} {m : MethodId} {args : Array Value} {below : List Frame} {meth : Method} {c : Code} {H : Heap} {locs : List Loc} {cells slots : Nat} {Q : State → Prop}
variable {cc : ByteArray} {pc : Nat} {ls : Array Slot} {rest st0 : List Value} {dC : Nat → ClassId} {dI : Nat → Nat → Nat} {h0 h1 : Nat} {d : ClassId} {f : Nat → Int32} {n : Int32} {A : Nat → Prop} {H0 : Heap}
/-- the number on top by another name -/
theorem tp_as {x y : Int32} (h : x = y) (k : W p l e R s m args below meth c H locs cells slots Q (F0 m pc ls (.int y :: rest))) : W p l e R s m args below meth c H locs cells slots Q (F0 m pc ls (.int x :: rest)) := by
  subst h; exact k
/-- the second number by another name -/
theorem tp_as2 {z : Value} {x y : Int32} (h : x = y) (k : W p l e R s m args below meth c H locs cells slots Q (F0 m pc ls (z :: .int y :: rest))) : W p l e R s m args below meth c H locs cells slots Q (F0 m pc ls (z :: .int x :: rest)) := by
  subst h; exact k
/-- a byte of an array of 4096 at a known place -/
theorem ut_ld {ws : va_W} {tys : List (ClassId × FieldType)} (hx : p.tables.exec = Jvm.exec) (hb : c.code = cc) (hK : va_K (dC, dI) vwCl tys s) (hP : va_P (dC, dI) vwCl ws H) (q0 t0 : Nat) (ha : ws[q0]? = some (h1, .inl (d, 4096, .inl f))) (ht : tys[t0]? = some (d, .byte)) {i : Nat} (hi : i < 4096) (hdg : decode cc pc = .ok (.baload, 1))
    (kk : W p l e R s m args below meth c H locs cells slots Q (F0 m (pc + 1) ls (.int (f i) :: rest))) : W p l e R s m args below meth c H locs cells slots Q (F0 m pc ls (.int (nI i) :: .ref h1 :: rest)) := by
  refine va_bald hx hb hK hP q0 t0 ha ht (vp_in_nI hi (by decide)) hdg ?_
  rw [nI_clamp (by omega)]
  exact kk
theorem wt_gtext {tys : List (ClassId × FieldType)} (hx : p.tables.exec = Jvm.exec) (hb : c.code = cc) (hts : ∀ w ∈ lw_all, w.before args s = true) (hown : s.vm.findClass RX1 = some m.cls) (hK : va_K (dC, dI) vwCl tys s) (hP : va_P (dC, dI) vwCl (wt h0 h1 d f n) H) (hdg : decode cc pc = .ok (.getfield 7, 3))
    (kk : W p l e R s m args below meth c H locs cells slots Q (F0 m (pc + 3) ls (.ref h1 :: rest))) : W p l e R s m args below meth c H locs cells slots Q (F0 m pc ls (.ref h0 :: rest)) :=
  va_get (D := (dC, dI)) (ci := 0) (v := .ref h1) (C := RX1) (T := TX1) (N := 2) hx hb hts in_X1 hown hK hP 0 rfl rfl 0 (by decide) (hts _ q20) (fun _ h9 => h9) rfl hdg kk
theorem wt_gsize {tys : List (ClassId × FieldType)} (hx : p.tables.exec = Jvm.exec) (hb : c.code = cc) (hts : ∀ w ∈ lw_all, w.before args s = true) (hown : s.vm.findClass RX1 = some m.cls) (hK : va_K (dC, dI) vwCl tys s) (hP : va_P (dC, dI) vwCl (wt h0 h1 d f n) H) (hdg : decode cc pc = .ok (.getfield 13, 3))
    (kk : W p l e R s m args below meth c H locs cells slots Q (F0 m (pc + 3) ls (.int n :: rest))) : W p l e R s m args below meth c H locs cells slots Q (F0 m pc ls (.ref h0 :: rest)) :=
  va_get (D := (dC, dI)) (ci := 0) (v := .int n) (C := RX1) (T := TX1) (N := 2) hx hb hts in_X1 hown hK hP 0 rfl rfl 1 (by decide) (hts _ q21) (fun _ h9 => h9) rfl hdg kk
theorem wt_psize {tys : List (ClassId × FieldType)} {n' : Int32} (hx : p.tables.exec = Jvm.exec) (hb : c.code = cc) (hts : ∀ w ∈ lw_all, w.before args s = true) (hown : s.vm.findClass RX1 = some m.cls) (hK : va_K (dC, dI) vwCl tys s) (hP : va_P (dC, dI) vwCl (wt h0 h1 d f n) H) (hD : va_D A (wt h0 h1 d f n)) (hS : va_S A H0 H locs) (hdg : decode cc pc = .ok (.putfield 13, 3))
    (kk : ∀ (H1 : Heap) (locs1 : List Loc), va_P (dC, dI) vwCl (wt h0 h1 d f n') H1 → va_D A (wt h0 h1 d f n') → va_S A H0 H1 locs1 → W p l e R s m args below meth c H1 locs1 cells slots Q (F0 m (pc + 3) ls rest)) : W p l e R s m args below meth c H locs cells slots Q (F0 m pc ls (.int n' :: .ref h0 :: rest)) :=
  va_put (D := (dC, dI)) (ci := 0) (v := .int n') (ty := .int) (C := RX1) (T := TX1) (N := 2) hx hb hts in_X1 tyX1 tyX1_ok nmX1 hown hK hP hD hS 0 rfl rfl 1 (by decide) (hts _ q21) (fun _ h9 => h9) rfl (by decide +kernel) rfl rfl (Nat.le_of_ble_eq_true rfl) hdg (fun H1 locs1 a b z => kk H1 locs1 a b z)
/-- a byte put at a known place -/
theorem wt_st {i : Nat} {x : Int32} (hx : p.tables.exec = Jvm.exec) (hb : c.code = cc) (hK : va_K (dC, dI) vwCl [(d, .byte)] s) (hP : va_P (dC, dI) vwCl (wt h0 h1 d f n) H) (hD : va_D A (wt h0 h1 d f n)) (hS : va_S A H0 H locs) (hi : i < 4096) (hdg : decode cc pc = .ok (.bastore, 1))
    (kk : ∀ (H1 : Heap) (locs1 : List Loc), va_P (dC, dI) vwCl (wt h0 h1 d (upd f i x.toInt8.toInt32) n) H1 → va_D A (wt h0 h1 d (upd f i x.toInt8.toInt32) n) → va_S A H0 H1 locs1 → W p l e R s m args below meth c H1 locs1 cells slots Q (F0 m (pc + 1) ls rest)) : W p l e R s m args below meth c H locs cells slots Q (F0 m pc ls (.int x.toInt8.toInt32 :: .int (nI i) :: .ref h1 :: rest)) := by
  refine va_bast hx hb hK hP hD hS 1 0 rfl rfl (vp_in_nI hi (by decide)) hdg (fun H1 locs1 a b z => ?_)
  rw [nI_clamp (by omega), pk_vb] at a b
  exact kk H1 locs1 a b z
/-- a reader's answer -/
theorem rd_call {r : Int32} {a : Array Value} (hr : CallRun p l e R s m args below meth c H locs cells slots 0 0 (F0 m pc ls st0) rest (QcRead r a) (fun _ => False)) (kk : W p l e R s m args below meth c H locs cells slots Q (F0 m (pc + 3) ls (.int r :: rest))) : W p l e R s m args below meth c H locs cells slots Q (F0 m pc ls st0) := W.callR hr kk
theorem wt_preR {As : List Value} (hK : va_K (dC, dI) vwCl [(d, .byte)] s) (hP : va_P (dC, dI) vwCl (wt h0 h1 d f n) H) : PreV s H RX1 h0 (va_Pc (.ref h0 :: As) (wt_R dC dI h0 h1 d f n)) As :=
  ⟨fun a U g mk q => by obtain ⟨q0, qP, qK⟩ := q; exact ⟨q0, qP, va_K.moved (u := U) (U := U.calling g mk a) (Vm.Alike.refl U.vm) qK⟩, va_recv hK hP (ci := 0) (q0 := 0) rfl rfl, fun U hU hW => ⟨rfl, by rw [hU]; exact hP, va_K.moved hW.alike hK⟩⟩
theorem ut_preR {As : List Value} (hK : va_K (dC, dI) vwCl [(d, .byte)] s) (hP : va_P (dC, dI) vwCl [(h1, .inl (d, 4096, .inl f))] H) : PreS s H (va_Pc As (ut_R dC dI h1 d f)) As :=
  ⟨fun a U g mk q => by obtain ⟨q0, qP, qK⟩ := q; exact ⟨q0, qP, va_K.moved (u := U) (U := U.calling g mk a) (Vm.Alike.refl U.vm) qK⟩, fun U hU hW => ⟨rfl, by rw [hU]; exact hP, va_K.moved hW.alike hK⟩⟩
theorem wt_preU {As : List Value} (hK : va_K (dC, dI) vwCl [(d, .byte)] s) (hP : va_P (dC, dI) vwCl (wt h0 h1 d f n) H) (hD : va_D A (wt h0 h1 d f n)) : PreV s H RX1 h0 (va_Pc (.ref h0 :: As) (wt_U dC dI h0 h1 d f n H.size)) As :=
  ⟨fun a U g mk q => by obtain ⟨q0, q1, qP, qK, qD⟩ := q; exact ⟨q0, q1, qP, va_K.moved (u := U) (U := U.calling g mk a) (Vm.Alike.refl U.vm) qK, qD⟩, va_recv hK hP (ci := 0) (q0 := 0) rfl rfl, fun U hU hW => ⟨rfl, by rw [hU], by rw [hU]; exact hP, va_K.moved hW.alike hK, hD.weaken (fun _ _ _ _ => trivial)⟩⟩
theorem wt_preUS {As : List Value} (hK : va_K (dC, dI) vwCl [(d, .byte)] s) (hP : va_P (dC, dI) vwCl (wt h0 h1 d f n) H) (hD : va_D A (wt h0 h1 d f n)) : PreS s H (va_Pc As (wt_U dC dI h0 h1 d f n H.size)) As :=
  ⟨fun a U g mk q => by obtain ⟨q0, q1, qP, qK, qD⟩ := q; exact ⟨q0, q1, qP, va_K.moved (u := U) (U := U.calling g mk a) (Vm.Alike.refl U.vm) qK, qD⟩, fun U hU hW => ⟨rfl, by rw [hU], by rw [hU]; exact hP, va_K.moved hW.alike hK, hD.weaken (fun _ _ _ _ => trivial)⟩⟩
/-- behind a writer's call: the new world -/
theorem wt_callv {a : Array Value} {post : (Nat → Int32) × Int32 → Prop} (hr : va_Run p l e R s m args below meth c H locs cells slots 0 0 (F0 m pc ls st0) rest (va_Qv post (wt_B dC dI h0 h1 d (va_A (wt h0 h1 d f n) H.size)) (va_A (wt h0 h1 d f n) H.size) a) (va_A (wt h0 h1 d f n) H.size))
    (hP : va_P (dC, dI) vwCl (wt h0 h1 d f n) H) (hD : va_D A (wt h0 h1 d f n)) (hS : va_S A H0 H locs) (hA : ∀ q, H0.size ≤ q → A q)
    (kk : ∀ (f' : Nat → Int32) (n' : Int32) (H1 : Heap) (locs1 : List Loc), post (f', n') → va_P (dC, dI) vwCl (wt h0 h1 d f' n') H1 → va_D A (wt h0 h1 d f' n') → va_S A H0 H1 locs1 → W p l e R s m args below meth c H1 locs1 cells slots Q (F0 m (pc + 3) ls rest)) : W p l e R s m args below meth c H locs cells slots Q (F0 m pc ls st0) := by
  have hFc := va_free (wc := wt h0 h1 d f n) hD hS hA [0, 1] rfl
  refine va_callv hr hS (fun q _ h => hFc q h) hFc (fun u t H1 locs1 ht hvm hw hB hz1 hk1 hS => ?_)
  obtain ⟨f', n'⟩ := u
  obtain ⟨hP1, hK1, hD1⟩ := hB
  rw [ht] at hP1
  obtain ⟨hP2, hD2⟩ := va_join (wr := []) (w1 := wt h0 h1 d f' n') hP hD [0, 1] [] rfl rfl (by decide) (by decide) hk1 hFc hP1 hD1
  exact kk f' n' H1 locs1 hw hP2 hD2 hS
theorem wt_calli {a : Array Value} {post : Int32 → (Nat → Int32) × Int32 → Prop} (hr : va_Run p l e R s m args below meth c H locs cells slots 0 0 (F0 m pc ls st0) rest (va_Qi post (wt_B dC dI h0 h1 d (va_A (wt h0 h1 d f n) H.size)) (va_A (wt h0 h1 d f n) H.size) a) (va_A (wt h0 h1 d f n) H.size))
    (hP : va_P (dC, dI) vwCl (wt h0 h1 d f n) H) (hD : va_D A (wt h0 h1 d f n)) (hS : va_S A H0 H locs) (hA : ∀ q, H0.size ≤ q → A q)
    (kk : ∀ (r : Int32) (f' : Nat → Int32) (n' : Int32) (H1 : Heap) (locs1 : List Loc), post r (f', n') → va_P (dC, dI) vwCl (wt h0 h1 d f' n') H1 → va_D A (wt h0 h1 d f' n') → va_S A H0 H1 locs1 → W p l e R s m args below meth c H1 locs1 cells slots Q (F0 m (pc + 3) ls (.int r :: rest))) : W p l e R s m args below meth c H locs cells slots Q (F0 m pc ls st0) := by
  have hFc := va_free (wc := wt h0 h1 d f n) hD hS hA [0, 1] rfl
  refine va_calli hr hS (fun q _ h => hFc q h) hFc (fun r u t H1 locs1 ht hvm hw hB hz1 hk1 hS => ?_)
  obtain ⟨f', n'⟩ := u
  obtain ⟨hP1, hK1, hD1⟩ := hB
  rw [ht] at hP1
  obtain ⟨hP2, hD2⟩ := va_join (wr := []) (w1 := wt h0 h1 d f' n') hP hD [0, 1] [] rfl rfl (by decide) (by decide) hk1 hFc hP1 hD1
  exact kk r f' n' H1 locs1 hw hP2 hD2 hS
end WT
end
section
set_option maxHeartbeats 4000000 in
set_option maxRecDepth 100000 in
/-- checkPositionIndexes: in its place it returns -/
theorem m_check (l : Launch) (a b z : Int32) (h1 : ¬ a < 0) (h2 : ¬ b < a) (h3 : b ≤ z) : Met l yX3_checkPositionIndexes (ws_ yX3_checkPositionIndexes cX3_checkPositionIndexes 3 none) ({ frames := 0, cells := 0, slots := 0, locals := 0 }) (va_Pc [.int a, .int b, .int z] (fun _ => True)) (va_Sv (fun _ => True)) 0 0 (fun _ => False) := by
  refine Met.ofW (cc := cX3_checkPositionIndexes) (maxL := 3) (ret := none) (by decide) rfl ?_
  intro p e s m args below meth c s₁ B hml hv
  obtain ⟨rfl, -⟩ := hv
  have hx := B.exec
  have hb := B.bytes
  have hr := B.returns
  have hlocks := B.notSynchronized
  have hl := lv_entry ([.int a, .int b, .int z]) (n := 3) (Nat.le_of_ble_eq_true rfl)
  rw [lg_entry_eq]
  generalize (lg_sl ([.int a, .int b, .int z]) ++ List.replicate (3 - (lg_sl ([.int a, .int b, .int z])).length) Slot.unset).toArray = ls at hl ⊢
  have hl : lv_has ls 3 [(0, .int a), (1, .int b), (2, .int z)] := hl
  refine lv_iload_n hx hb dX3_checkPositionIndexes_0 rfl (lv_at hl 0 rfl) ?_
  refine lv_if_lt (tgt := 14) hx hb dX3_checkPositionIndexes_1 (by decide) (fun g => ?_) (fun g => ?_)
  · exact absurd g h1
  · refine lv_iload_n hx hb dX3_checkPositionIndexes_4 rfl (lv_at hl 1 rfl) ?_
    refine lv_iload_n hx hb dX3_checkPositionIndexes_5 rfl (lv_at hl 0 rfl) ?_
    refine lv_icmp_lt (tgt := 14) hx hb dX3_checkPositionIndexes_6 (by decide) (fun g => ?_) (fun g => ?_)
    · exact absurd g h2
    · refine lv_iload_n hx hb dX3_checkPositionIndexes_9 rfl (lv_at hl 1 rfl) ?_
      refine lv_iload_n hx hb dX3_checkPositionIndexes_10 rfl (lv_at hl 2 rfl) ?_
      refine lv_icmp_le (tgt := 24) hx hb dX3_checkPositionIndexes_11 (by decide) (fun g => ?_) (fun g => ?_)
      · exact W.vret hx hb hr (fun t ht _ => ⟨rfl, trivial, ht⟩) (fun q h => by cases h) dX3_checkPositionIndexes_24
      · exact absurd h3 g
set_option maxHeartbeats 4000000 in
set_option maxRecDepth 100000 in
/-- the slow path's loop at its head, i bytes on: the answer is that of the bytes from i on -/
theorem slow_loop {p : Program} {l : Launch} {e : Env} {R : Room} {s : State} {m : MethodId} {args : Array Value} {below : List Frame} {meth : Method} {c : Code} {dC : Nat → ClassId} {dI : Nat → Nat → Nat} {h1 : Nat} {d : ClassId} {f : Nat → Int32} {r : Int32} (E : Nat) (hE : E ≤ 4096) (hx : p.tables.exec = Jvm.exec) (hb : c.code = cX2_isWellFormedSlowPath) (hr : meth.sig.returnType = some .boolean) (hlocks : meth.locks = false) (hK : va_K (dC, dI) vwCl [(d, .byte)] s) (hP : va_P (dC, dI) vwCl [(h1, .inl (d, 4096, .inl f))] s.heap) :
    ∀ (n i : Nat), i ≤ E → E + 1 ≤ i + n → u8_r f i E = r → ∀ (ls : Array Slot), lv_has ls 6 [(0, .ref h1), (2, .int (nI E)), (3, .int (nI i))] → W p l e R s m args below meth c s.heap [] 0 0 (MQ below (QcRead r) args s 0 0 (fun _ => False)) (F0 m 2 ls []) := by
  intro n
  induction n with
  | zero =>
    intro i h1 h2
    exact absurd h2 (by omega)
  | succ n ih =>
    intro i hi hn er ls hl
    refine lv_iload_n hx hb dX2_isWellFormedSlowPath_2 rfl (lv_at hl 2 rfl) ?_
    refine lv_iload_n hx hb dX2_isWellFormedSlowPath_3 rfl (lv_at hl 1 rfl) ?_
    refine lv_icmp_lt (tgt := 9) hx hb dX2_isWellFormedSlowPath_4 (by decide) (fun g => ?_) (fun g => ?_)
    · have hlt : i < E := (nI_ltI (by omega) (by omega)).mp g
      refine lv_aload_n hx hb dX2_isWellFormedSlowPath_9 rfl (lv_at hl 0 rfl) ?_
      refine lv_iload_n hx hb dX2_isWellFormedSlowPath_10 rfl (lv_at hl 2 rfl) ?_
      refine lv_iinc (v := nI (i + 1)) (lv' := [(3, .int (nI (i + 1))), (0, .ref h1), (2, .int (nI E))]) hx hb dX2_isWellFormedSlowPath_11 hl (k := 2) rfl (nI_1 i) (by decide) rfl (fun ls hl => ?_)
      refine ut_ld (i := i) hx hb hK hP 0 0 rfl rfl (by omega) dX2_isWellFormedSlowPath_14 ?_
      refine lv_dup hx hb dX2_isWellFormedSlowPath_15 rfl ?_
      refine lv_istore (lv' := [(4, .int (f i)), (3, .int (nI (i + 1))), (0, .ref h1), (2, .int (nI E))]) hx hb dX2_isWellFormedSlowPath_16 hl (by decide) rfl (fun ls hl => ?_)
      refine lv_if_ge (tgt := 2) hx hb dX2_isWellFormedSlowPath_18 (by decide) (fun g0 => ?_) (fun g0 => ?_)
      · exact ih (i + 1) (by omega) (by omega) ((u8_radv (k := 1) (Or.inl ⟨rfl, g0⟩) hlt).trans er) ls (lv_sub hl [2, 3, 1] rfl)
      · refine lv_iload hx hb dX2_isWellFormedSlowPath_21 (lv_at hl 0 rfl) ?_
        refine lv_bipush (v := -32) hx hb dX2_isWellFormedSlowPath_23 (by decide) ?_
        refine lv_icmp_ge (tgt := 55) hx hb dX2_isWellFormedSlowPath_25 (by decide) (fun g1 => ?_) (fun g1 => ?_)
        · refine lv_iload hx hb dX2_isWellFormedSlowPath_55 (lv_at hl 0 rfl) ?_
          refine lv_bipush (v := -16) hx hb dX2_isWellFormedSlowPath_57 (by decide) ?_
          refine lv_icmp_ge (tgt := 130) hx hb dX2_isWellFormedSlowPath_59 (by decide) (fun g2 => ?_) (fun g2 => ?_)
          · refine lv_iload_n hx hb dX2_isWellFormedSlowPath_130 rfl (lv_at hl 1 rfl) ?_
            refine lv_iconst (v := nI 2) hx hb dX2_isWellFormedSlowPath_131 (by decide) ?_
            refine lv_iadd hx hb dX2_isWellFormedSlowPath_132 ?_
            refine tp_as (y := nI (i + 3)) (nI_add (i + 1) 2) ?_
            refine lv_iload_n hx hb dX2_isWellFormedSlowPath_133 rfl (lv_at hl 3 rfl) ?_
            refine lv_icmp_lt (tgt := 139) hx hb dX2_isWellFormedSlowPath_134 (by decide) (fun g3 => ?_) (fun g3 => ?_)
            · have hle4 : i + 3 < E := (nI_ltI (by omega) (by omega)).mp g3
              refine lv_aload_n hx hb dX2_isWellFormedSlowPath_139 rfl (lv_at hl 2 rfl) ?_
              refine lv_iload_n hx hb dX2_isWellFormedSlowPath_140 rfl (lv_at hl 1 rfl) ?_
              refine lv_iinc (v := nI (i + 2)) (lv' := [(3, .int (nI (i + 2))), (4, .int (f i)), (0, .ref h1), (2, .int (nI E))]) hx hb dX2_isWellFormedSlowPath_141 hl (k := 1) rfl (nI_1 (i + 1)) (by decide) rfl (fun ls hl => ?_)
              refine ut_ld (i := i + 1) hx hb hK hP 0 0 rfl rfl (by omega) dX2_isWellFormedSlowPath_144 ?_
              refine lv_istore (lv' := [(5, .int (f (i + 1))), (3, .int (nI (i + 2))), (4, .int (f i)), (0, .ref h1), (2, .int (nI E))]) hx hb dX2_isWellFormedSlowPath_145 hl (by decide) rfl (fun ls hl => ?_)
              refine lv_iload hx hb dX2_isWellFormedSlowPath_147 (lv_at hl 0 rfl) ?_
              refine lv_bipush (v := -65) hx hb dX2_isWellFormedSlowPath_149 (by decide) ?_
              refine lv_icmp_gt (tgt := 193) hx hb dX2_isWellFormedSlowPath_151 (by decide) (fun g4 => ?_) (fun g4 => ?_)
              · refine lv_iconst (v := 0) hx hb dX2_isWellFormedSlowPath_193 (by decide) ?_
                exact W.zret (v := 0) hx hb hr rfl (fun t ht _ => ⟨by rw [← er, u8_r0 (u8_no hlt (fun k hk hle => (u8_4 g0 g1 g2 hk).2.1 g4))], ht⟩) (fun q h => by cases h) dX2_isWellFormedSlowPath_194
              · refine lv_iload hx hb dX2_isWellFormedSlowPath_154 (lv_at hl 2 rfl) ?_
                refine lv_bipush (v := 28) hx hb dX2_isWellFormedSlowPath_156 (by decide) ?_
                refine lv_ishl hx hb dX2_isWellFormedSlowPath_158 ?_
                refine lv_iload hx hb dX2_isWellFormedSlowPath_159 (lv_at hl 0 rfl) ?_
                refine lv_bipush (v := -112) hx hb dX2_isWellFormedSlowPath_161 (by decide) ?_
                refine lv_isub hx hb dX2_isWellFormedSlowPath_163 ?_
                refine lv_iadd hx hb dX2_isWellFormedSlowPath_164 ?_
                refine lv_bipush (v := 30) hx hb dX2_isWellFormedSlowPath_165 (by decide) ?_
                refine lv_ishr hx hb dX2_isWellFormedSlowPath_167 ?_
                refine lv_if_ne (tgt := 193) hx hb dX2_isWellFormedSlowPath_168 (by decide) (fun g5 => ?_) (fun g5 => ?_)
                · refine lv_iconst (v := 0) hx hb dX2_isWellFormedSlowPath_193 (by decide) ?_
                  exact W.zret (v := 0) hx hb hr rfl (fun t ht _ => ⟨by rw [← er, u8_r0 (u8_no hlt (fun k hk hle => g5 (u8_4 g0 g1 g2 hk).2.2.1))], ht⟩) (fun q h => by cases h) dX2_isWellFormedSlowPath_194
                · refine lv_aload_n hx hb dX2_isWellFormedSlowPath_171 rfl (lv_at hl 3 rfl) ?_
                  refine lv_iload_n hx hb dX2_isWellFormedSlowPath_172 rfl (lv_at hl 1 rfl) ?_
                  refine lv_iinc (v := nI (i + 3)) (lv' := [(3, .int (nI (i + 3))), (5, .int (f (i + 1))), (4, .int (f i)), (0, .ref h1), (2, .int (nI E))]) hx hb dX2_isWellFormedSlowPath_173 hl (k := 1) rfl (nI_1 (i + 2)) (by decide) rfl (fun ls hl => ?_)
                  refine ut_ld (i := i + 2) hx hb hK hP 0 0 rfl rfl (by omega) dX2_isWellFormedSlowPath_176 ?_
                  refine lv_bipush (v := -65) hx hb dX2_isWellFormedSlowPath_177 (by decide) ?_
                  refine lv_icmp_gt (tgt := 193) hx hb dX2_isWellFormedSlowPath_179 (by decide) (fun g6 => ?_) (fun g6 => ?_)
                  · refine lv_iconst (v := 0) hx hb dX2_isWellFormedSlowPath_193 (by decide) ?_
                    exact W.zret (v := 0) hx hb hr rfl (fun t ht _ => ⟨by rw [← er, u8_r0 (u8_no hlt (fun k hk hle => (u8_4 g0 g1 g2 hk).2.2.2.1 g6))], ht⟩) (fun q h => by cases h) dX2_isWellFormedSlowPath_194
                  · refine lv_aload_n hx hb dX2_isWellFormedSlowPath_182 rfl (lv_at hl 3 rfl) ?_
                    refine lv_iload_n hx hb dX2_isWellFormedSlowPath_183 rfl (lv_at hl 0 rfl) ?_
                    refine lv_iinc (v := nI (i + 4)) (lv' := [(3, .int (nI (i + 4))), (5, .int (f (i + 1))), (4, .int (f i)), (0, .ref h1), (2, .int (nI E))]) hx hb dX2_isWellFormedSlowPath_184 hl (k := 0) rfl (nI_1 (i + 3)) (by decide) rfl (fun ls hl => ?_)
                    refine ut_ld (i := i + 3) hx hb hK hP 0 0 rfl rfl (by omega) dX2_isWellFormedSlowPath_187 ?_
                    refine lv_bipush (v := -65) hx hb dX2_isWellFormedSlowPath_188 (by decide) ?_
                    refine lv_icmp_le (tgt := 195) hx hb dX2_isWellFormedSlowPath_190 (by decide) (fun g7 => ?_) (fun g7 => ?_)
                    · refine lv_goto (tgt := 2) hx hb dX2_isWellFormedSlowPath_195 (by decide) ?_
                      exact ih (i + 4) (by omega) (by omega) ((u8_radv (k := 4) (Or.inr (Or.inr (Or.inr ⟨rfl, g0, g1, g2, g4, g5, g6, g7⟩))) hlt).trans er) ls (lv_sub hl [3, 4, 0] rfl)
                    · refine lv_iconst (v := 0) hx hb dX2_isWellFormedSlowPath_193 (by decide) ?_
                      exact W.zret (v := 0) hx hb hr rfl (fun t ht _ => ⟨by rw [← er, u8_r0 (u8_no hlt (fun k hk hle => g7 (u8_4 g0 g1 g2 hk).2.2.2.2))], ht⟩) (fun q h => by cases h) dX2_isWellFormedSlowPath_194
            · refine lv_iconst (v := 0) hx hb dX2_isWellFormedSlowPath_137 (by decide) ?_
              exact W.zret (v := 0) hx hb hr rfl (fun t ht _ => ⟨by rw [← er, u8_r0 (u8_no hlt (fun k hk hle => by rw [(u8_4 g0 g1 g2 hk).1] at hle; exact g3 ((nI_ltI (by omega) (by omega)).mpr (by omega))))], ht⟩) (fun q h => by cases h) dX2_isWellFormedSlowPath_138
          · refine lv_iload_n hx hb dX2_isWellFormedSlowPath_62 rfl (lv_at hl 1 rfl) ?_
            refine lv_iconst (v := 1) hx hb dX2_isWellFormedSlowPath_63 (by decide) ?_
            refine lv_iadd hx hb dX2_isWellFormedSlowPath_64 ?_
            refine tp_as (y := nI (i + 2)) (nI_1 (i + 1)) ?_
            refine lv_iload_n hx hb dX2_isWellFormedSlowPath_65 rfl (lv_at hl 3 rfl) ?_
            refine lv_icmp_lt (tgt := 71) hx hb dX2_isWellFormedSlowPath_66 (by decide) (fun g3 => ?_) (fun g3 => ?_)
            · have hle3 : i + 2 < E := (nI_ltI (by omega) (by omega)).mp g3
              refine lv_aload_n hx hb dX2_isWellFormedSlowPath_71 rfl (lv_at hl 2 rfl) ?_
              refine lv_iload_n hx hb dX2_isWellFormedSlowPath_72 rfl (lv_at hl 1 rfl) ?_
              refine lv_iinc (v := nI (i + 2)) (lv' := [(3, .int (nI (i + 2))), (4, .int (f i)), (0, .ref h1), (2, .int (nI E))]) hx hb dX2_isWellFormedSlowPath_73 hl (k := 1) rfl (nI_1 (i + 1)) (by decide) rfl (fun ls hl => ?_)
              refine ut_ld (i := i + 1) hx hb hK hP 0 0 rfl rfl (by omega) dX2_isWellFormedSlowPath_76 ?_
              refine lv_istore (lv' := [(5, .int (f (i + 1))), (3, .int (nI (i + 2))), (4, .int (f i)), (0, .ref h1), (2, .int (nI E))]) hx hb dX2_isWellFormedSlowPath_77 hl (by decide) rfl (fun ls hl => ?_)
              refine lv_iload hx hb dX2_isWellFormedSlowPath_79 (lv_at hl 0 rfl) ?_
              refine lv_bipush (v := -65) hx hb dX2_isWellFormedSlowPath_81 (by decide) ?_
              refine lv_icmp_gt (tgt := 125) hx hb dX2_isWellFormedSlowPath_83 (by decide) (fun g4 => ?_) (fun g4 => ?_)
              · refine lv_iconst (v := 0) hx hb dX2_isWellFormedSlowPath_125 (by decide) ?_
                exact W.zret (v := 0) hx hb hr rfl (fun t ht _ => ⟨by rw [← er, u8_r0 (u8_no hlt (fun k hk hle => (u8_3 g0 g1 g2 hk).2.1 g4))], ht⟩) (fun q h => by cases h) dX2_isWellFormedSlowPath_126
              · refine lv_iload hx hb dX2_isWellFormedSlowPath_86 (lv_at hl 2 rfl) ?_
                refine lv_bipush (v := -32) hx hb dX2_isWellFormedSlowPath_88 (by decide) ?_
                refine lv_icmp_ne (tgt := 100) hx hb dX2_isWellFormedSlowPath_90 (by decide) (fun g5 => ?_) (fun g5 => ?_)
                · refine lv_iload hx hb dX2_isWellFormedSlowPath_100 (lv_at hl 2 rfl) ?_
                  refine lv_bipush (v := -19) hx hb dX2_isWellFormedSlowPath_102 (by decide) ?_
                  refine lv_icmp_ne (tgt := 114) hx hb dX2_isWellFormedSlowPath_104 (by decide) (fun g6 => ?_) (fun g6 => ?_)
                  · refine lv_aload_n hx hb dX2_isWellFormedSlowPath_114 rfl (lv_at hl 3 rfl) ?_
                    refine lv_iload_n hx hb dX2_isWellFormedSlowPath_115 rfl (lv_at hl 1 rfl) ?_
                    refine lv_iinc (v := nI (i + 3)) (lv' := [(3, .int (nI (i + 3))), (5, .int (f (i + 1))), (4, .int (f i)), (0, .ref h1), (2, .int (nI E))]) hx hb dX2_isWellFormedSlowPath_116 hl (k := 1) rfl (nI_1 (i + 2)) (by decide) rfl (fun ls hl => ?_)
                    refine ut_ld (i := i + 2) hx hb hK hP 0 0 rfl rfl (by omega) dX2_isWellFormedSlowPath_119 ?_
                    refine lv_bipush (v := -65) hx hb dX2_isWellFormedSlowPath_120 (by decide) ?_
                    refine lv_icmp_le (tgt := 127) hx hb dX2_isWellFormedSlowPath_122 (by decide) (fun g7 => ?_) (fun g7 => ?_)
                    · refine lv_goto (tgt := 195) hx hb dX2_isWellFormedSlowPath_127 (by decide) ?_
                      refine lv_goto (tgt := 2) hx hb dX2_isWellFormedSlowPath_195 (by decide) ?_
                      exact ih (i + 3) (by omega) (by omega) ((u8_radv (k := 3) (Or.inr (Or.inr (Or.inl ⟨rfl, g0, g1, g2, g4, (fun q => absurd q g5), (fun q => absurd q g6), g7⟩))) hlt).trans er) ls (lv_sub hl [3, 4, 0] rfl)
                    · refine lv_iconst (v := 0) hx hb dX2_isWellFormedSlowPath_125 (by decide) ?_
                      exact W.zret (v := 0) hx hb hr rfl (fun t ht _ => ⟨by rw [← er, u8_r0 (u8_no hlt (fun k hk hle => g7 (u8_3 g0 g1 g2 hk).2.2.2.2))], ht⟩) (fun q h => by cases h) dX2_isWellFormedSlowPath_126
                  · refine lv_iload hx hb dX2_isWellFormedSlowPath_107 (lv_at hl 0 rfl) ?_
                    refine lv_bipush (v := -96) hx hb dX2_isWellFormedSlowPath_109 (by decide) ?_
                    refine lv_icmp_ge (tgt := 125) hx hb dX2_isWellFormedSlowPath_111 (by decide) (fun g8 => ?_) (fun g8 => ?_)
                    · refine lv_iconst (v := 0) hx hb dX2_isWellFormedSlowPath_125 (by decide) ?_
                      exact W.zret (v := 0) hx hb hr rfl (fun t ht _ => ⟨by rw [← er, u8_r0 (u8_no hlt (fun k hk hle => (u8_3 g0 g1 g2 hk).2.2.2.1 g6 g8))], ht⟩) (fun q h => by cases h) dX2_isWellFormedSlowPath_126
                    · refine lv_aload_n hx hb dX2_isWellFormedSlowPath_114 rfl (lv_at hl 3 rfl) ?_
                      refine lv_iload_n hx hb dX2_isWellFormedSlowPath_115 rfl (lv_at hl 1 rfl) ?_
                      refine lv_iinc (v := nI (i + 3)) (lv' := [(3, .int (nI (i + 3))), (5, .int (f (i + 1))), (4, .int (f i)), (0, .ref h1), (2, .int (nI E))]) hx hb dX2_isWellFormedSlowPath_116 hl (k := 1) rfl (nI_1 (i + 2)) (by decide) rfl (fun ls hl => ?_)
                      refine ut_ld (i := i + 2) hx hb hK hP 0 0 rfl rfl (by omega) dX2_isWellFormedSlowPath_119 ?_
                      refine lv_bipush (v := -65) hx hb dX2_isWellFormedSlowPath_120 (by decide) ?_
                      refine lv_icmp_le (tgt := 127) hx hb dX2_isWellFormedSlowPath_122 (by decide) (fun g7 => ?_) (fun g7 => ?_)
                      · refine lv_goto (tgt := 195) hx hb dX2_isWellFormedSlowPath_127 (by decide) ?_
                        refine lv_goto (tgt := 2) hx hb dX2_isWellFormedSlowPath_195 (by decide) ?_
                        exact ih (i + 3) (by omega) (by omega) ((u8_radv (k := 3) (Or.inr (Or.inr (Or.inl ⟨rfl, g0, g1, g2, g4, (fun q => absurd q g5), (fun _ => g8), g7⟩))) hlt).trans er) ls (lv_sub hl [3, 4, 0] rfl)
                      · refine lv_iconst (v := 0) hx hb dX2_isWellFormedSlowPath_125 (by decide) ?_
                        exact W.zret (v := 0) hx hb hr rfl (fun t ht _ => ⟨by rw [← er, u8_r0 (u8_no hlt (fun k hk hle => g7 (u8_3 g0 g1 g2 hk).2.2.2.2))], ht⟩) (fun q h => by cases h) dX2_isWellFormedSlowPath_126
                · refine lv_iload hx hb dX2_isWellFormedSlowPath_93 (lv_at hl 0 rfl) ?_
                  refine lv_bipush (v := -96) hx hb dX2_isWellFormedSlowPath_95 (by decide) ?_
                  refine lv_icmp_lt (tgt := 125) hx hb dX2_isWellFormedSlowPath_97 (by decide) (fun g9 => ?_) (fun g9 => ?_)
                  · refine lv_iconst (v := 0) hx hb dX2_isWellFormedSlowPath_125 (by decide) ?_
                    exact W.zret (v := 0) hx hb hr rfl (fun t ht _ => ⟨by rw [← er, u8_r0 (u8_no hlt (fun k hk hle => (u8_3 g0 g1 g2 hk).2.2.1 g5 g9))], ht⟩) (fun q h => by cases h) dX2_isWellFormedSlowPath_126
                  · refine lv_iload hx hb dX2_isWellFormedSlowPath_100 (lv_at hl 2 rfl) ?_
                    refine lv_bipush (v := -19) hx hb dX2_isWellFormedSlowPath_102 (by decide) ?_
                    refine lv_icmp_ne (tgt := 114) hx hb dX2_isWellFormedSlowPath_104 (by decide) (fun g6 => ?_) (fun g6 => ?_)
                    · refine lv_aload_n hx hb dX2_isWellFormedSlowPath_114 rfl (lv_at hl 3 rfl) ?_
                      refine lv_iload_n hx hb dX2_isWellFormedSlowPath_115 rfl (lv_at hl 1 rfl) ?_
                      refine lv_iinc (v := nI (i + 3)) (lv' := [(3, .int (nI (i + 3))), (5, .int (f (i + 1))), (4, .int (f i)), (0, .ref h1), (2, .int (nI E))]) hx hb dX2_isWellFormedSlowPath_116 hl (k := 1) rfl (nI_1 (i + 2)) (by decide) rfl (fun ls hl => ?_)
                      refine ut_ld (i := i + 2) hx hb hK hP 0 0 rfl rfl (by omega) dX2_isWellFormedSlowPath_119 ?_
                      refine lv_bipush (v := -65) hx hb dX2_isWellFormedSlowPath_120 (by decide) ?_
                      refine lv_icmp_le (tgt := 127) hx hb dX2_isWellFormedSlowPath_122 (by decide) (fun g7 => ?_) (fun g7 => ?_)
                      · refine lv_goto (tgt := 195) hx hb dX2_isWellFormedSlowPath_127 (by decide) ?_
                        refine lv_goto (tgt := 2) hx hb dX2_isWellFormedSlowPath_195 (by decide) ?_
                        exact ih (i + 3) (by omega) (by omega) ((u8_radv (k := 3) (Or.inr (Or.inr (Or.inl ⟨rfl, g0, g1, g2, g4, (fun _ => g9), (fun q => absurd q g6), g7⟩))) hlt).trans er) ls (lv_sub hl [3, 4, 0] rfl)
                      · refine lv_iconst (v := 0) hx hb dX2_isWellFormedSlowPath_125 (by decide) ?_
                        exact W.zret (v := 0) hx hb hr rfl (fun t ht _ => ⟨by rw [← er, u8_r0 (u8_no hlt (fun k hk hle => g7 (u8_3 g0 g1 g2 hk).2.2.2.2))], ht⟩) (fun q h => by cases h) dX2_isWellFormedSlowPath_126
                    · refine lv_iload hx hb dX2_isWellFormedSlowPath_107 (lv_at hl 0 rfl) ?_
                      refine lv_bipush (v := -96) hx hb dX2_isWellFormedSlowPath_109 (by decide) ?_
                      refine lv_icmp_ge (tgt := 125) hx hb dX2_isWellFormedSlowPath_111 (by decide) (fun g8 => ?_) (fun g8 => ?_)
                      · refine lv_iconst (v := 0) hx hb dX2_isWellFormedSlowPath_125 (by decide) ?_
                        exact W.zret (v := 0) hx hb hr rfl (fun t ht _ => ⟨by rw [← er, u8_r0 (u8_no hlt (fun k hk hle => (u8_3 g0 g1 g2 hk).2.2.2.1 g6 g8))], ht⟩) (fun q h => by cases h) dX2_isWellFormedSlowPath_126
                      · refine lv_aload_n hx hb dX2_isWellFormedSlowPath_114 rfl (lv_at hl 3 rfl) ?_
                        refine lv_iload_n hx hb dX2_isWellFormedSlowPath_115 rfl (lv_at hl 1 rfl) ?_
                        refine lv_iinc (v := nI (i + 3)) (lv' := [(3, .int (nI (i + 3))), (5, .int (f (i + 1))), (4, .int (f i)), (0, .ref h1), (2, .int (nI E))]) hx hb dX2_isWellFormedSlowPath_116 hl (k := 1) rfl (nI_1 (i + 2)) (by decide) rfl (fun ls hl => ?_)
                        refine ut_ld (i := i + 2) hx hb hK hP 0 0 rfl rfl (by omega) dX2_isWellFormedSlowPath_119 ?_
                        refine lv_bipush (v := -65) hx hb dX2_isWellFormedSlowPath_120 (by decide) ?_
                        refine lv_icmp_le (tgt := 127) hx hb dX2_isWellFormedSlowPath_122 (by decide) (fun g7 => ?_) (fun g7 => ?_)
                        · refine lv_goto (tgt := 195) hx hb dX2_isWellFormedSlowPath_127 (by decide) ?_
                          refine lv_goto (tgt := 2) hx hb dX2_isWellFormedSlowPath_195 (by decide) ?_
                          exact ih (i + 3) (by omega) (by omega) ((u8_radv (k := 3) (Or.inr (Or.inr (Or.inl ⟨rfl, g0, g1, g2, g4, (fun _ => g9), (fun _ => g8), g7⟩))) hlt).trans er) ls (lv_sub hl [3, 4, 0] rfl)
                        · refine lv_iconst (v := 0) hx hb dX2_isWellFormedSlowPath_125 (by decide) ?_
                          exact W.zret (v := 0) hx hb hr rfl (fun t ht _ => ⟨by rw [← er, u8_r0 (u8_no hlt (fun k hk hle => g7 (u8_3 g0 g1 g2 hk).2.2.2.2))], ht⟩) (fun q h => by cases h) dX2_isWellFormedSlowPath_126
            · refine lv_iconst (v := 0) hx hb dX2_isWellFormedSlowPath_69 (by decide) ?_
              exact W.zret (v := 0) hx hb hr rfl (fun t ht _ => ⟨by rw [← er, u8_r0 (u8_no hlt (fun k hk hle => by rw [(u8_3 g0 g1 g2 hk).1] at hle; exact g3 ((nI_ltI (by omega) (by omega)).mpr (by omega))))], ht⟩) (fun q h => by cases h) dX2_isWellFormedSlowPath_70
        · refine lv_iload_n hx hb dX2_isWellFormedSlowPath_28 rfl (lv_at hl 1 rfl) ?_
          refine lv_iload_n hx hb dX2_isWellFormedSlowPath_29 rfl (lv_at hl 3 rfl) ?_
          refine lv_icmp_ne (tgt := 35) hx hb dX2_isWellFormedSlowPath_30 (by decide) (fun g2 => ?_) (fun g2 => ?_)
          · have hle2 : ¬ i + 1 = E := fun q => g2 (by rw [q])
            refine lv_iload hx hb dX2_isWellFormedSlowPath_35 (lv_at hl 0 rfl) ?_
            refine lv_bipush (v := -62) hx hb dX2_isWellFormedSlowPath_37 (by decide) ?_
            refine lv_icmp_lt (tgt := 53) hx hb dX2_isWellFormedSlowPath_39 (by decide) (fun g3 => ?_) (fun g3 => ?_)
            · refine lv_iconst (v := 0) hx hb dX2_isWellFormedSlowPath_53 (by decide) ?_
              exact W.zret (v := 0) hx hb hr rfl (fun t ht _ => ⟨by rw [← er, u8_r0 (u8_no hlt (fun k hk hle => (u8_2 g0 g1 hk).2.1 g3))], ht⟩) (fun q h => by cases h) dX2_isWellFormedSlowPath_54
            · refine lv_aload_n hx hb dX2_isWellFormedSlowPath_42 rfl (lv_at hl 2 rfl) ?_
              refine lv_iload_n hx hb dX2_isWellFormedSlowPath_43 rfl (lv_at hl 1 rfl) ?_
              refine lv_iinc (v := nI (i + 2)) (lv' := [(3, .int (nI (i + 2))), (4, .int (f i)), (0, .ref h1), (2, .int (nI E))]) hx hb dX2_isWellFormedSlowPath_44 hl (k := 1) rfl (nI_1 (i + 1)) (by decide) rfl (fun ls hl => ?_)
              refine ut_ld (i := i + 1) hx hb hK hP 0 0 rfl rfl (by omega) dX2_isWellFormedSlowPath_47 ?_
              refine lv_bipush (v := -65) hx hb dX2_isWellFormedSlowPath_48 (by decide) ?_
              refine lv_icmp_le (tgt := 195) hx hb dX2_isWellFormedSlowPath_50 (by decide) (fun g4 => ?_) (fun g4 => ?_)
              · refine lv_goto (tgt := 2) hx hb dX2_isWellFormedSlowPath_195 (by decide) ?_
                exact ih (i + 2) (by omega) (by omega) ((u8_radv (k := 2) (Or.inr (Or.inl ⟨rfl, g0, g1, g3, g4⟩)) hlt).trans er) ls (lv_sub hl [2, 3, 0] rfl)
              · refine lv_iconst (v := 0) hx hb dX2_isWellFormedSlowPath_53 (by decide) ?_
                exact W.zret (v := 0) hx hb hr rfl (fun t ht _ => ⟨by rw [← er, u8_r0 (u8_no hlt (fun k hk hle => g4 (u8_2 g0 g1 hk).2.2))], ht⟩) (fun q h => by cases h) dX2_isWellFormedSlowPath_54
          · refine lv_iconst (v := 0) hx hb dX2_isWellFormedSlowPath_33 (by decide) ?_
            exact W.zret (v := 0) hx hb hr rfl (fun t ht _ => ⟨by rw [← er, u8_r0 (u8_no hlt (fun k hk hle => by rw [(u8_2 g0 g1 hk).1] at hle; have := (nI_eq (by omega) (by omega)).mp g2; omega))], ht⟩) (fun q h => by cases h) dX2_isWellFormedSlowPath_34
    · refine lv_iconst (v := 1) hx hb dX2_isWellFormedSlowPath_7 (by decide) ?_
      have he : i = E := Nat.le_antisymm hi (Nat.not_lt.mp (fun q => g (nI_lt q (by omega))))
      exact W.zret (v := 1) hx hb hr rfl (fun t ht _ => ⟨by rw [← er, he, u8_r1 u8_refl], ht⟩) (fun q h => by cases h) dX2_isWellFormedSlowPath_8
set_option maxHeartbeats 4000000 in
set_option maxRecDepth 100000 in
/-- isWellFormedSlowPath(bytes, off, end) -/
theorem m_slow (l : Launch) (dC : Nat → ClassId) (dI : Nat → Nat → Nat) (h1 : Nat) (d : ClassId) (f : Nat → Int32) (o E : Nat) (ho : o ≤ E) (hE : E ≤ 4096) : Met l yX2_isWellFormedSlowPath (ws_ yX2_isWellFormedSlowPath cX2_isWellFormedSlowPath 6 (some .boolean)) ({ frames := 0, cells := 0, slots := 0, locals := 0 }) (va_Pc [.ref h1, .int (nI o), .int (nI E)] (ut_R dC dI h1 d f)) (QcRead (u8_r f o E)) 0 0 (fun _ => False) := by
  refine Met.ofW (cc := cX2_isWellFormedSlowPath) (maxL := 6) (ret := (some .boolean)) (by decide) rfl ?_
  intro p e s m args below meth c s₁ B hml hv
  obtain ⟨rfl, hP, hK⟩ := hv
  have hx := B.exec
  have hb := B.bytes
  have hr := B.returns
  have hts := atoms_spec (ws := ws_ yX2_isWellFormedSlowPath cX2_isWellFormedSlowPath 6 (some .boolean)) B.pre
  have hts : ∀ w ∈ lw_all, w.before _ s = true := fun w h => hts w (List.mem_cons_of_mem _ h)
  have hlocks := B.notSynchronized
  have hl := lv_entry ([.ref h1, .int (nI o), .int (nI E)]) (n := 6) (Nat.le_of_ble_eq_true rfl)
  rw [lg_entry_eq]
  generalize (lg_sl ([.ref h1, .int (nI o), .int (nI E)]) ++ List.replicate (6 - (lg_sl ([.ref h1, .int (nI o), .int (nI E)])).length) Slot.unset).toArray = ls at hl ⊢
  have hl : lv_has ls 6 [(0, .ref h1), (1, .int (nI o)), (2, .int (nI E))] := hl
  refine lv_iload_n hx hb dX2_isWellFormedSlowPath_0 rfl (lv_at hl 1 rfl) ?_
  refine lv_istore_n (lv' := [(3, .int (nI o)), (0, .ref h1), (1, .int (nI o)), (2, .int (nI E))]) hx hb dX2_isWellFormedSlowPath_1 rfl hl (by decide) rfl (fun ls hl => ?_)
  exact slow_loop E hE hx hb hr hlocks hK hP (E + 1) o ho (by omega) rfl ls (lv_sub hl [1, 3, 0] rfl)
theorem u8_nar (f : Nat → Int32) (i e : Nat) : narrow .boolean (.int (u8_r f i e)) = .int (u8_r f i e) := by
  rcases u8_rc f i e with ⟨h, -⟩ | ⟨h, -⟩ <;> rw [h] <;> rfl
set_option maxHeartbeats 4000000 in
set_option maxRecDepth 100000 in
/-- isWellFormed's loop at its head: the bytes ahead of i are ASCII -/
theorem fast_loop {p : Program} {l : Launch} {e : Env} {R : Room} {s : State} {m : MethodId} {args : Array Value} {below : List Frame} {meth : Method} {c : Code} {dC : Nat → ClassId} {dI : Nat → Nat → Nat} {h1 : Nat} {d : ClassId} {f : Nat → Int32} {r : Int32} (E : Nat) (hE : E ≤ 4096) (hR : 1 ≤ R.frames ∧ 25 ≤ R.locals) (hx : p.tables.exec = Jvm.exec) (hb : c.code = cX2_isWellFormed) (hr : meth.sig.returnType = some .boolean) (hlocks : meth.locks = false) (hml : c.maxLocals = 5) (hown : s.vm.findClass RX2 = some m.cls) (hts : ∀ w ∈ lw_all, w.before args s = true) (hK : va_K (dC, dI) vwCl [(d, .byte)] s) (hP : va_P (dC, dI) vwCl [(h1, .inl (d, 4096, .inl f))] s.heap) :
    ∀ (n i : Nat), i ≤ E → E + 1 ≤ i + n → u8_r f i E = r → ∀ (ls : Array Slot), lv_has ls 5 [(0, .ref h1), (3, .int (nI E)), (4, .int (nI i))] → W p l e R s m args below meth c s.heap [] 0 0 (MQ below (QcRead r) args s 0 0 (fun _ => False)) (F0 m 14 ls []) := by
  intro n
  induction n with
  | zero =>
    intro i h1 h2
    exact absurd h2 (by omega)
  | succ n ih =>
    intro i hi hn er ls hl
    refine lv_iload hx hb dX2_isWellFormed_14 (lv_at hl 2 rfl) ?_
    refine lv_iload_n hx hb dX2_isWellFormed_16 rfl (lv_at hl 1 rfl) ?_
    refine lv_icmp_ge (tgt := 41) hx hb dX2_isWellFormed_17 (by decide) (fun g => ?_) (fun g => ?_)
    · refine lv_iconst (v := 1) hx hb dX2_isWellFormed_41 (by decide) ?_
      have he : i = E := Nat.le_antisymm hi ((nI_leI (by omega) (by omega)).mp g)
      exact W.zret (v := 1) hx hb hr rfl (fun t ht _ => ⟨by rw [← er, he, u8_r1 u8_refl], ht⟩) (fun q h => by cases h) dX2_isWellFormed_42
    · have hlt : i < E := Nat.not_le.mp (fun q => g (nI_le q (by omega)))
      refine lv_aload_n hx hb dX2_isWellFormed_20 rfl (lv_at hl 0 rfl) ?_
      refine lv_iload hx hb dX2_isWellFormed_21 (lv_at hl 2 rfl) ?_
      refine ut_ld (i := i) hx hb hK hP 0 0 rfl rfl (by omega) dX2_isWellFormed_23 ?_
      refine lv_if_ge (tgt := 35) hx hb dX2_isWellFormed_24 (by decide) (fun g0 => ?_) (fun g0 => ?_)
      · refine lv_iinc (v := nI (i + 1)) (lv' := [(4, .int (nI (i + 1))), (0, .ref h1), (3, .int (nI E))]) hx hb dX2_isWellFormed_35 hl (k := 2) rfl (nI_1 i) (by decide) rfl (fun ls hl => ?_)
        refine lv_goto (tgt := 14) hx hb dX2_isWellFormed_38 (by decide) ?_
        exact ih (i + 1) (by omega) (by omega) ((u8_radv (k := 1) (Or.inl ⟨rfl, g0⟩) hlt).trans er) ls (lv_sub hl [1, 2, 0] rfl)
      · refine lv_aload_n hx hb dX2_isWellFormed_27 rfl (lv_at hl 0 rfl) ?_
        refine lv_iload hx hb dX2_isWellFormed_28 (lv_at hl 2 rfl) ?_
        refine lv_iload_n hx hb dX2_isWellFormed_30 rfl (lv_at hl 1 rfl) ?_
        refine rd_call (W.runS (As := [.ref h1, .int (nI i), .int (nI E)]) (rest := []) ⟨hx, hb, hml, hown, hts⟩ (m_slow l dC dI h1 d f i E hi hE) (va_cwS 3 hts (lw_S q128 q129 q6 q130) rfl rfl rfl (by decide +kernel) ⟨hR.1, hR.2⟩) (ut_preR hK hP) rfl rfl hl.1 rfl (lv_room (Nat.le_of_ble_eq_true rfl)) dX2_isWellFormed_31 ⟨Nat.zero_le _, Nat.zero_le _⟩) ?_
        exact W.zret (v := u8_r f i E) hx hb hr (u8_nar f i E) (fun t ht _ => ⟨by rw [er], ht⟩) (fun q h => by cases h) dX2_isWellFormed_34
set_option maxHeartbeats 4000000 in
set_option maxRecDepth 100000 in
/-- isWellFormed(bytes, off, len) -/
theorem m_fast (l : Launch) (dC : Nat → ClassId) (dI : Nat → Nat → Nat) (h1 : Nat) (d : ClassId) (f : Nat → Int32) (o len : Nat) (hE : o + len ≤ 4096) : Met l yX2_isWellFormed (ws_ yX2_isWellFormed cX2_isWellFormed 5 (some .boolean)) ({ frames := 1, cells := 0, slots := 0, locals := 25 }) (va_Pc [.ref h1, .int (nI o), .int (nI len)] (ut_R dC dI h1 d f)) (QcRead (u8_r f o (o + len))) 0 0 (fun _ => False) := by
  refine Met.ofW (cc := cX2_isWellFormed) (maxL := 5) (ret := (some .boolean)) (by decide) rfl ?_
  intro p e s m args below meth c s₁ B hml hv
  obtain ⟨rfl, hP, hK⟩ := hv
  have hown : s.vm.findClass RX2 = some m.cls := findClass_of_methodNamed B.named
  have hx := B.exec
  have hb := B.bytes
  have hr := B.returns
  have hts := atoms_spec (ws := ws_ yX2_isWellFormed cX2_isWellFormed 5 (some .boolean)) B.pre
  have hts : ∀ w ∈ lw_all, w.before _ s = true := fun w h => hts w (List.mem_cons_of_mem _ h)
  have hlocks := B.notSynchronized
  have hl := lv_entry ([.ref h1, .int (nI o), .int (nI len)]) (n := 5) (Nat.le_of_ble_eq_true rfl)
  rw [lg_entry_eq]
  generalize (lg_sl ([.ref h1, .int (nI o), .int (nI len)]) ++ List.replicate (5 - (lg_sl ([.ref h1, .int (nI o), .int (nI len)])).length) Slot.unset).toArray = ls at hl ⊢
  have hl : lv_has ls 5 [(0, .ref h1), (1, .int (nI o)), (2, .int (nI len))] := hl
  refine lv_iload_n hx hb dX2_isWellFormed_0 rfl (lv_at hl 1 rfl) ?_
  refine lv_iload_n hx hb dX2_isWellFormed_1 rfl (lv_at hl 2 rfl) ?_
  refine lv_iadd hx hb dX2_isWellFormed_2 ?_
  refine tp_as (y := nI (o + len)) (nI_add o len) ?_
  refine lv_istore_n (lv' := [(3, .int (nI (o + len))), (0, .ref h1), (1, .int (nI o)), (2, .int (nI len))]) hx hb dX2_isWellFormed_3 rfl hl (by decide) rfl (fun ls hl => ?_)
  refine lv_iload_n hx hb dX2_isWellFormed_4 rfl (lv_at hl 2 rfl) ?_
  refine lv_iload_n hx hb dX2_isWellFormed_5 rfl (lv_at hl 0 rfl) ?_
  refine lv_aload_n hx hb dX2_isWellFormed_6 rfl (lv_at hl 1 rfl) ?_
  refine va_alen (v := nI 4096) hx hb hK hP 0 0 rfl rfl rfl dX2_isWellFormed_7 ?_
  refine va_csv (W.runS (As := [.int (nI o), .int (nI (o + len)), .int (nI 4096)]) (rest := []) ⟨hx, hb, hml, hown, hts⟩ (m_check l (nI o) (nI (o + len)) (nI 4096) (nI_pos (by omega)) (nI_nlt (by omega) (by omega)) (nI_le hE (by decide))) (va_cwS 3 hts (lw_S q60 q61 q7 q62) rfl rfl rfl (by decide +kernel) ⟨Nat.le_of_ble_eq_true rfl, Nat.le_of_ble_eq_true rfl⟩) ⟨fun _ _ _ _ q => q, fun _ _ _ => ⟨rfl, trivial⟩⟩ rfl rfl hl.1 rfl (lv_room (Nat.le_of_ble_eq_true rfl)) dX2_isWellFormed_8 ⟨Nat.zero_le _, Nat.zero_le _⟩) (fun _ => ?_)
  refine lv_iload_n hx hb dX2_isWellFormed_11 rfl (lv_at hl 2 rfl) ?_
  refine lv_istore (lv' := [(4, .int (nI o)), (3, .int (nI (o + len))), (0, .ref h1), (1, .int (nI o)), (2, .int (nI len))]) hx hb dX2_isWellFormed_12 hl (by decide) rfl (fun ls hl => ?_)
  exact fast_loop (o + len) hE ⟨Nat.le_of_ble_eq_true rfl, Nat.le_of_ble_eq_true rfl⟩ hx hb hr hlocks hml hown hts hK hP (o + len + 1) o (by omega) (by omega) rfl ls (lv_sub hl [2, 1, 0] rfl)
end
section
set_option maxHeartbeats 4000000 in
set_option maxRecDepth 100000 in
/-- size() -/
theorem m_size (l : Launch) (dC : Nat → ClassId) (dI : Nat → Nat → Nat) (h0 h1 : Nat) (d : ClassId) (f : Nat → Int32) (n : Int32) : Met l yX1_size (ws_ yX1_size cX1_size 1 (some .int)) ({ frames := 0, cells := 0, slots := 0, locals := 0 }) (va_Pc [.ref h0] (wt_R dC dI h0 h1 d f n)) (QcRead (n)) 0 0 (fun _ => False) := by
  refine Met.ofW (cc := cX1_size) (maxL := 1) (ret := (some .int)) (by decide) rfl ?_
  intro p e s m args below meth c s₁ B hml hv
  obtain ⟨rfl, hP, hK⟩ := hv
  have hx := B.exec
  have hb := B.bytes
  have hr := B.returns
  have hts := atoms_spec (ws := ws_ yX1_size cX1_size 1 (some .int)) B.pre
  have hts : ∀ w ∈ lw_all, w.before _ s = true := fun w h => hts w (List.mem_cons_of_mem _ h)
  have hown : s.vm.findClass RX1 = some m.cls := findClass_of_methodNamed B.named
  have hlocks := B.notSynchronized
  have hl := lv_entry ([.ref h0]) (n := 1) (Nat.le_of_ble_eq_true rfl)
  rw [lg_entry_eq]
  generalize (lg_sl ([.ref h0]) ++ List.replicate (1 - (lg_sl ([.ref h0])).length) Slot.unset).toArray = ls at hl ⊢
  have hl : lv_has ls 1 [(0, .ref h0)] := hl
  refine lv_aload_n hx hb dX1_size_0 rfl (lv_at hl 0 rfl) ?_
  refine wt_gsize hx hb hts hown hK hP dX1_size_1 ?_
  exact W.iret (v := n) hx hb hr (fun t ht _ => ⟨rfl, ht⟩) (fun q h => by cases h) dX1_size_4
set_option maxHeartbeats 4000000 in
set_option maxRecDepth 100000 in
/-- from(a) -/
theorem m_from (l : Launch) (dC : Nat → ClassId) (dI : Nat → Nat → Nat) (h0 h1 : Nat) (d : ClassId) (f : Nat → Int32) (N a : Nat) (hN : N ≤ 4096) (ha : a < 2 ^ 31) : Met l yX1_from (ws_ yX1_from cX1_from 2 (some .int)) ({ frames := 0, cells := 0, slots := 0, locals := 0 }) (va_Pc [.ref h0, .int (nI a)] (wt_R dC dI h0 h1 d f (nI N))) (QcRead (nI (a % (N + 1)))) 0 0 (fun _ => False) := by
  refine Met.ofW (cc := cX1_from) (maxL := 2) (ret := (some .int)) (by decide) rfl ?_
  intro p e s m args below meth c s₁ B hml hv
  obtain ⟨rfl, hP, hK⟩ := hv
  have hx := B.exec
  have hb := B.bytes
  have hr := B.returns
  have hts := atoms_spec (ws := ws_ yX1_from cX1_from 2 (some .int)) B.pre
  have hts : ∀ w ∈ lw_all, w.before _ s = true := fun w h => hts w (List.mem_cons_of_mem _ h)
  have hown : s.vm.findClass RX1 = some m.cls := findClass_of_methodNamed B.named
  have hlocks := B.notSynchronized
  have hl := lv_entry ([.ref h0, .int (nI a)]) (n := 2) (Nat.le_of_ble_eq_true rfl)
  rw [lg_entry_eq]
  generalize (lg_sl ([.ref h0, .int (nI a)]) ++ List.replicate (2 - (lg_sl ([.ref h0, .int (nI a)])).length) Slot.unset).toArray = ls at hl ⊢
  have hl : lv_has ls 2 [(0, .ref h0), (1, .int (nI a))] := hl
  refine lv_iload_n hx hb dX1_from_0 rfl (lv_at hl 1 rfl) ?_
  refine lv_ldc hx hb hown (hts _ q44) dX1_from_1 ?_
  refine lv_iand hx hb dX1_from_3 ?_
  refine tp_as (y := nI a) (by rw [pk_andN (by omega) 31 (by decide +kernel), Nat.mod_eq_of_lt (by omega)]) ?_
  refine lv_aload_n hx hb dX1_from_4 rfl (lv_at hl 0 rfl) ?_
  refine wt_gsize hx hb hts hown hK hP dX1_from_5 ?_
  refine lv_iconst (v := 1) hx hb dX1_from_8 (by decide) ?_
  refine lv_iadd hx hb dX1_from_9 ?_
  refine tp_as (y := nI (N + 1)) (nI_1 N) ?_
  refine lv_irem hx hb dX1_from_10 (nI_ne0 (by omega) (by omega)) ?_
  refine tp_as (y := nI (a % (N + 1))) (pk_rem ha (by omega) (by omega)) ?_
  exact W.iret (v := nI (a % (N + 1))) hx hb hr (fun t ht _ => ⟨rfl, ht⟩) (fun q h => by cases h) dX1_from_11
set_option maxHeartbeats 4000000 in
set_option maxRecDepth 100000 in
/-- count(o, a) -/
theorem m_count (l : Launch) (dC : Nat → ClassId) (dI : Nat → Nat → Nat) (h0 h1 : Nat) (d : ClassId) (f : Nat → Int32) (N o a : Nat) (hN : N ≤ 4096) (ho : o ≤ N) (ha : a < 2 ^ 31) : Met l yX1_count (ws_ yX1_count cX1_count 3 (some .int)) ({ frames := 0, cells := 0, slots := 0, locals := 0 }) (va_Pc [.ref h0, .int (nI o), .int (nI a)] (wt_R dC dI h0 h1 d f (nI N))) (QcRead (nI (a % (N - o + 1)))) 0 0 (fun _ => False) := by
  refine Met.ofW (cc := cX1_count) (maxL := 3) (ret := (some .int)) (by decide) rfl ?_
  intro p e s m args below meth c s₁ B hml hv
  obtain ⟨rfl, hP, hK⟩ := hv
  have hx := B.exec
  have hb := B.bytes
  have hr := B.returns
  have hts := atoms_spec (ws := ws_ yX1_count cX1_count 3 (some .int)) B.pre
  have hts : ∀ w ∈ lw_all, w.before _ s = true := fun w h => hts w (List.mem_cons_of_mem _ h)
  have hown : s.vm.findClass RX1 = some m.cls := findClass_of_methodNamed B.named
  have hlocks := B.notSynchronized
  have hl := lv_entry ([.ref h0, .int (nI o), .int (nI a)]) (n := 3) (Nat.le_of_ble_eq_true rfl)
  rw [lg_entry_eq]
  generalize (lg_sl ([.ref h0, .int (nI o), .int (nI a)]) ++ List.replicate (3 - (lg_sl ([.ref h0, .int (nI o), .int (nI a)])).length) Slot.unset).toArray = ls at hl ⊢
  have hl : lv_has ls 3 [(0, .ref h0), (1, .int (nI o)), (2, .int (nI a))] := hl
  refine lv_iload_n hx hb dX1_count_0 rfl (lv_at hl 2 rfl) ?_
  refine lv_ldc hx hb hown (hts _ q44) dX1_count_1 ?_
  refine lv_iand hx hb dX1_count_3 ?_
  refine tp_as (y := nI a) (by rw [pk_andN (by omega) 31 (by decide +kernel), Nat.mod_eq_of_lt (by omega)]) ?_
  refine lv_aload_n hx hb dX1_count_4 rfl (lv_at hl 0 rfl) ?_
  refine wt_gsize hx hb hts hown hK hP dX1_count_5 ?_
  refine lv_iload_n hx hb dX1_count_8 rfl (lv_at hl 1 rfl) ?_
  refine lv_isub hx hb dX1_count_9 ?_
  refine tp_as (y := nI (N - o)) (pk_sub ho) ?_
  refine lv_iconst (v := 1) hx hb dX1_count_10 (by decide) ?_
  refine lv_iadd hx hb dX1_count_11 ?_
  refine tp_as (y := nI (N - o + 1)) (nI_1 (N - o)) ?_
  refine lv_irem hx hb dX1_count_12 (nI_ne0 (by omega) (by omega)) ?_
  refine tp_as (y := nI (a % (N - o + 1))) (pk_rem ha (by omega) (by omega)) ?_
  exact W.iret (v := nI (a % (N - o + 1))) hx hb hr (fun t ht _ => ⟨rfl, ht⟩) (fun q h => by cases h) dX1_count_13
set_option maxHeartbeats 4000000 in
set_option maxRecDepth 100000 in
/-- fair(a, b): what Guava says of the bytes from a to a + b -/
theorem m_fair (l : Launch) (dC : Nat → ClassId) (dI : Nat → Nat → Nat) (h0 h1 : Nat) (d : ClassId) (f : Nat → Int32) (N a b : Nat) (hN : N ≤ 4096) (hab : a + b ≤ N) : Met l yX1_fair (ws_ yX1_fair cX1_fair 4 (some .boolean)) ({ frames := 2, cells := 0, slots := 0, locals := 49 }) (va_Pc [.ref h0, .int (nI a), .int (nI b)] (wt_R dC dI h0 h1 d f (nI N))) (QcRead (u8_r f a (a + b))) 0 0 (fun _ => False) := by
  refine Met.ofW (cc := cX1_fair) (maxL := 4) (ret := (some .boolean)) (by decide) rfl ?_
  intro p e s m args below meth c s₁ B hml hv
  obtain ⟨rfl, hP, hK⟩ := hv
  have hx := B.exec
  have hb := B.bytes
  have hr := B.returns
  have hts := atoms_spec (ws := ws_ yX1_fair cX1_fair 4 (some .boolean)) B.pre
  have hts : ∀ w ∈ lw_all, w.before _ s = true := fun w h => hts w (List.mem_cons_of_mem _ h)
  have hown : s.vm.findClass RX1 = some m.cls := findClass_of_methodNamed B.named
  have hlocks := B.notSynchronized
  have hl := lv_entry ([.ref h0, .int (nI a), .int (nI b)]) (n := 4) (Nat.le_of_ble_eq_true rfl)
  rw [lg_entry_eq]
  generalize (lg_sl ([.ref h0, .int (nI a), .int (nI b)]) ++ List.replicate (4 - (lg_sl ([.ref h0, .int (nI a), .int (nI b)])).length) Slot.unset).toArray = ls at hl ⊢
  have hl : lv_has ls 4 [(0, .ref h0), (1, .int (nI a)), (2, .int (nI b))] := hl
  refine lv_aload_n hx hb dX1_fair_0 rfl (lv_at hl 0 rfl) ?_
  refine lv_iload_n hx hb dX1_fair_1 rfl (lv_at hl 1 rfl) ?_
  refine rd_call (W.runV (As := [.int (nI a)]) (rest := []) ⟨hx, hb, hml, hown, hts⟩ (m_from l dC dI h0 h1 d f N a hN (by omega)) (cwV 1 hts (lw_V q40 q42 qs1 q5 q43) rfl rfl rfl (by decide +kernel) ⟨Nat.le_of_ble_eq_true rfl, Nat.le_of_ble_eq_true rfl⟩) (wt_preR hK hP) rfl rfl hl.1 rfl (lv_room (Nat.le_of_ble_eq_true rfl)) dX1_fair_2 ⟨Nat.le_of_ble_eq_true rfl, Nat.le_of_ble_eq_true rfl⟩) ?_
  refine tp_as (y := nI a) (by rw [Nat.mod_eq_of_lt (by omega)]) ?_
  refine lv_istore_n (lv' := [(3, .int (nI a)), (0, .ref h0), (1, .int (nI a)), (2, .int (nI b))]) hx hb dX1_fair_5 rfl hl (by decide) rfl (fun ls hl => ?_)
  refine lv_aload_n hx hb dX1_fair_6 rfl (lv_at hl 1 rfl) ?_
  refine wt_gtext hx hb hts hown hK hP dX1_fair_7 ?_
  refine lv_iload_n hx hb dX1_fair_10 rfl (lv_at hl 0 rfl) ?_
  refine lv_aload_n hx hb dX1_fair_11 rfl (lv_at hl 1 rfl) ?_
  refine lv_iload_n hx hb dX1_fair_12 rfl (lv_at hl 0 rfl) ?_
  refine lv_iload_n hx hb dX1_fair_13 rfl (lv_at hl 3 rfl) ?_
  refine rd_call (W.runV (As := [.int (nI a), .int (nI b)]) (rest := [.int (nI a), .ref h1]) ⟨hx, hb, hml, hown, hts⟩ (m_count l dC dI h0 h1 d f N a b hN (by omega) (by omega)) (cwV 2 hts (lw_V q53 q55 qs2 q5 q56) rfl rfl rfl (by decide +kernel) ⟨Nat.le_of_ble_eq_true rfl, Nat.le_of_ble_eq_true rfl⟩) (wt_preR hK hP) rfl rfl hl.1 rfl (lv_room (Nat.le_of_ble_eq_true rfl)) dX1_fair_14 ⟨Nat.le_of_ble_eq_true rfl, Nat.le_of_ble_eq_true rfl⟩) ?_
  refine tp_as (y := nI b) (by rw [Nat.mod_eq_of_lt (by omega)]) ?_
  have hPu := hP.sub (ws' := [(h1, .inl (d, 4096, .inl f))]) [1] rfl
  refine rd_call (W.runS (As := [.ref h1, .int (nI a), .int (nI b)]) (rest := []) ⟨hx, hb, hml, hown, hts⟩ (m_fast l dC dI h1 d f a b (by omega)) (va_cwS 3 hts (lw_S q57 q58 q6 q59) rfl rfl rfl (by decide +kernel) ⟨Nat.le_of_ble_eq_true rfl, Nat.le_of_ble_eq_true rfl⟩) (ut_preR hK hPu) rfl rfl hl.1 rfl (lv_room (Nat.le_of_ble_eq_true rfl)) dX1_fair_17 ⟨Nat.le_of_ble_eq_true rfl, Nat.le_of_ble_eq_true rfl⟩) ?_
  exact W.zret (v := u8_r f a (a + b)) hx hb hr (u8_nar f a (a + b)) (fun t ht _ => ⟨rfl, ht⟩) (fun q h => by cases h) dX1_fair_20
/-- what sign(x, z) leaves in the array -/
def sg_f (f : Nat → Int32) (N : Nat) (x z : Int32) : Nat → Int32 := if N = 0 then f else upd f (x.toBitVec.toNat % 2 ^ 31 % N) z.toInt8.toInt32
set_option maxHeartbeats 4000000 in
set_option maxRecDepth 100000 in
/-- sign(x, z) -/
theorem m_sign (l : Launch) (dC : Nat → ClassId) (dI : Nat → Nat → Nat) (h0 h1 : Nat) (d : ClassId) (f : Nat → Int32) (hs : Nat) (N : Nat) (x z : Int32) (hN : N ≤ 4096) : Met l yX1_sign (ws_ yX1_sign cX1_sign 4 none) ({ frames := 0, cells := 0, slots := 0, locals := 0 }) (va_Pc [.ref h0, .int x, .int z] (wt_U dC dI h0 h1 d f (nI N) hs)) (va_Qv (fun u => u.1 = sg_f f N x z ∧ u.2 = nI N) (wt_B dC dI h0 h1 d (va_A (wt h0 h1 d f (nI N)) hs)) (va_A (wt h0 h1 d f (nI N)) hs)) 0 0 (va_A (wt h0 h1 d f (nI N)) hs) := by
  refine Met.ofW (cc := cX1_sign) (maxL := 4) (ret := none) (by decide) rfl ?_
  intro p e s m args below meth c s₁ B hml hv
  obtain ⟨rfl, hsz, hP, hK, hD0⟩ := hv
  have hx := B.exec
  have hb := B.bytes
  have hr := B.returns
  have hts := atoms_spec (ws := ws_ yX1_sign cX1_sign 4 none) B.pre
  have hts : ∀ w ∈ lw_all, w.before _ s = true := fun w h => hts w (List.mem_cons_of_mem _ h)
  have hown : s.vm.findClass RX1 = some m.cls := findClass_of_methodNamed B.named
  have hlocks := B.notSynchronized
  subst hsz
  have hD := hD0.self (sz := s.heap.size)
  generalize hAe : va_A (wt h0 h1 d f (nI N)) s.heap.size = A at hD ⊢
  have hA : ∀ q : Nat, s.heap.size ≤ q → A q := fun q h => by rw [← hAe]; exact Or.inr h
  have hS : va_S A s.heap s.heap [] := va_S.rf
  have hl := lv_entry ([.ref h0, .int x, .int z]) (n := 4) (Nat.le_of_ble_eq_true rfl)
  rw [lg_entry_eq]
  generalize (lg_sl ([.ref h0, .int x, .int z]) ++ List.replicate (4 - (lg_sl ([.ref h0, .int x, .int z])).length) Slot.unset).toArray = ls at hl ⊢
  have hl : lv_has ls 4 [(0, .ref h0), (1, .int x), (2, .int z)] := hl
  refine lv_aload_n hx hb dX1_sign_0 rfl (lv_at hl 0 rfl) ?_
  refine wt_gsize hx hb hts hown hK hP dX1_sign_1 ?_
  refine lv_if_le (tgt := 25) hx hb dX1_sign_4 (by decide) (fun g => ?_) (fun g => ?_)
  · have hz : N = 0 := Nat.le_zero.mp ((nI_leI (b := 0) (by omega) (by decide)).mp g)
    exact W.vret hx hb hr (fun t ht hW => ⟨⟨(f, nI N), rfl, ⟨by unfold sg_f; rw [if_pos hz], rfl⟩, by rw [ht]; exact hP, va_K.moved hW.alike hK, hD⟩, hS.F ht⟩) hS.2.2 dX1_sign_25
  · have hz : 0 < N := Nat.not_le.mp (fun q => g ((nI_leI (b := 0) (by omega) (by decide)).mpr q))
    have hlt : x.toBitVec.toNat % 2 ^ 31 % N < N := Nat.mod_lt _ hz
    refine lv_iload_n hx hb dX1_sign_7 rfl (lv_at hl 1 rfl) ?_
    refine lv_ldc hx hb hown (hts _ q44) dX1_sign_8 ?_
    refine lv_iand hx hb dX1_sign_10 ?_
    refine tp_as (y := nI (x.toBitVec.toNat % 2 ^ 31)) (pk_and x 31 (by decide +kernel)) ?_
    refine lv_aload_n hx hb dX1_sign_11 rfl (lv_at hl 0 rfl) ?_
    refine wt_gsize hx hb hts hown hK hP dX1_sign_12 ?_
    refine lv_irem hx hb dX1_sign_15 (nI_ne0 hz (by omega)) ?_
    refine tp_as (y := nI (x.toBitVec.toNat % 2 ^ 31 % N)) (pk_rem (Nat.mod_lt _ (by decide)) hz (by omega)) ?_
    refine lv_istore_n (lv' := [(3, .int (nI (x.toBitVec.toNat % 2 ^ 31 % N))), (0, .ref h0), (1, .int x), (2, .int z)]) hx hb dX1_sign_16 rfl hl (by decide) rfl (fun ls hl => ?_)
    refine lv_aload_n hx hb dX1_sign_17 rfl (lv_at hl 1 rfl) ?_
    refine wt_gtext hx hb hts hown hK hP dX1_sign_18 ?_
    refine lv_iload_n hx hb dX1_sign_21 rfl (lv_at hl 0 rfl) ?_
    refine lv_iload_n hx hb dX1_sign_22 rfl (lv_at hl 3 rfl) ?_
    refine lv_i2b (v := z.toInt8.toInt32) hx hb dX1_sign_23 rfl ?_
    refine wt_st (i := x.toBitVec.toNat % 2 ^ 31 % N) (x := z) hx hb hK hP hD hS (by omega) dX1_sign_24 (fun H locs hP hD hS => ?_)
    exact W.vret hx hb hr (fun t ht hW => ⟨⟨(upd f (x.toBitVec.toNat % 2 ^ 31 % N) z.toInt8.toInt32, nI N), rfl, ⟨by unfold sg_f; rw [if_neg (by omega)], rfl⟩, by rw [ht]; exact hP, va_K.moved hW.alike hK, hD⟩, hS.F ht⟩) hS.2.2 dX1_sign_25
set_option maxHeartbeats 4000000 in
set_option maxRecDepth 100000 in
/-- word(a, z): what it leaves isn't said -/
theorem m_word (l : Launch) (dC : Nat → ClassId) (dI : Nat → Nat → Nat) (h0 h1 : Nat) (d : ClassId) (f : Nat → Int32) (hs : Nat) (n : Int32) (a : Nat) (z : Int32) (ha : a + 3 < 4096) : Met l yX1_word (ws_ yX1_word cX1_word 3 none) ({ frames := 0, cells := 0, slots := 0, locals := 0 }) (va_Pc [.ref h0, .int (nI a), .int z] (wt_U dC dI h0 h1 d f n hs)) (va_Qv (fun u => u.2 = n) (wt_B dC dI h0 h1 d (va_A (wt h0 h1 d f n) hs)) (va_A (wt h0 h1 d f n) hs)) 0 0 (va_A (wt h0 h1 d f n) hs) := by
  refine Met.ofW (cc := cX1_word) (maxL := 3) (ret := none) (by decide) rfl ?_
  intro p e s m args below meth c s₁ B hml hv
  obtain ⟨rfl, hsz, hP, hK, hD0⟩ := hv
  have hx := B.exec
  have hb := B.bytes
  have hr := B.returns
  have hts := atoms_spec (ws := ws_ yX1_word cX1_word 3 none) B.pre
  have hts : ∀ w ∈ lw_all, w.before _ s = true := fun w h => hts w (List.mem_cons_of_mem _ h)
  have hown : s.vm.findClass RX1 = some m.cls := findClass_of_methodNamed B.named
  have hlocks := B.notSynchronized
  subst hsz
  have hD := hD0.self (sz := s.heap.size)
  generalize hAe : va_A (wt h0 h1 d f n) s.heap.size = A at hD ⊢
  have hA : ∀ q : Nat, s.heap.size ≤ q → A q := fun q h => by rw [← hAe]; exact Or.inr h
  have hS : va_S A s.heap s.heap [] := va_S.rf
  have hl := lv_entry ([.ref h0, .int (nI a), .int z]) (n := 3) (Nat.le_of_ble_eq_true rfl)
  rw [lg_entry_eq]
  generalize (lg_sl ([.ref h0, .int (nI a), .int z]) ++ List.replicate (3 - (lg_sl ([.ref h0, .int (nI a), .int z])).length) Slot.unset).toArray = ls at hl ⊢
  have hl : lv_has ls 3 [(0, .ref h0), (1, .int (nI a)), (2, .int z)] := hl
  refine lv_aload_n hx hb dX1_word_0 rfl (lv_at hl 0 rfl) ?_
  refine wt_gtext hx hb hts hown hK hP dX1_word_1 ?_
  refine lv_iload_n hx hb dX1_word_4 rfl (lv_at hl 1 rfl) ?_
  refine lv_iload_n hx hb dX1_word_5 rfl (lv_at hl 2 rfl) ?_
  refine lv_bipush (v := 24) hx hb dX1_word_6 (by decide) ?_
  refine lv_ishr hx hb dX1_word_8 ?_
  refine lv_i2b hx hb dX1_word_9 rfl ?_
  refine wt_st (i := a) hx hb hK hP hD hS (by omega) dX1_word_10 (fun H locs hP hD hS => ?_)
  refine lv_aload_n hx hb dX1_word_11 rfl (lv_at hl 0 rfl) ?_
  refine wt_gtext hx hb hts hown hK hP dX1_word_12 ?_
  refine lv_iload_n hx hb dX1_word_15 rfl (lv_at hl 1 rfl) ?_
  refine lv_iconst (v := nI 1) hx hb dX1_word_16 (by decide) ?_
  refine lv_iadd hx hb dX1_word_17 ?_
  refine tp_as (y := nI (a + 1)) (nI_add a 1) ?_
  refine lv_iload_n hx hb dX1_word_18 rfl (lv_at hl 2 rfl) ?_
  refine lv_bipush (v := 16) hx hb dX1_word_19 (by decide) ?_
  refine lv_ishr hx hb dX1_word_21 ?_
  refine lv_i2b hx hb dX1_word_22 rfl ?_
  refine wt_st (i := a + 1) hx hb hK hP hD hS (by omega) dX1_word_23 (fun H locs hP hD hS => ?_)
  refine lv_aload_n hx hb dX1_word_24 rfl (lv_at hl 0 rfl) ?_
  refine wt_gtext hx hb hts hown hK hP dX1_word_25 ?_
  refine lv_iload_n hx hb dX1_word_28 rfl (lv_at hl 1 rfl) ?_
  refine lv_iconst (v := nI 2) hx hb dX1_word_29 (by decide) ?_
  refine lv_iadd hx hb dX1_word_30 ?_
  refine tp_as (y := nI (a + 2)) (nI_add a 2) ?_
  refine lv_iload_n hx hb dX1_word_31 rfl (lv_at hl 2 rfl) ?_
  refine lv_bipush (v := 8) hx hb dX1_word_32 (by decide) ?_
  refine lv_ishr hx hb dX1_word_34 ?_
  refine lv_i2b hx hb dX1_word_35 rfl ?_
  refine wt_st (i := a + 2) hx hb hK hP hD hS (by omega) dX1_word_36 (fun H locs hP hD hS => ?_)
  refine lv_aload_n hx hb dX1_word_37 rfl (lv_at hl 0 rfl) ?_
  refine wt_gtext hx hb hts hown hK hP dX1_word_38 ?_
  refine lv_iload_n hx hb dX1_word_41 rfl (lv_at hl 1 rfl) ?_
  refine lv_iconst (v := nI 3) hx hb dX1_word_42 (by decide) ?_
  refine lv_iadd hx hb dX1_word_43 ?_
  refine tp_as (y := nI (a + 3)) (nI_add a 3) ?_
  refine lv_iload_n hx hb dX1_word_44 rfl (lv_at hl 2 rfl) ?_
  refine lv_i2b hx hb dX1_word_45 rfl ?_
  refine wt_st (i := a + 3) hx hb hK hP hD hS (by omega) dX1_word_46 (fun H locs hP hD hS => ?_)
  exact W.vret hx hb hr (fun t ht hW => ⟨⟨(_, n), rfl, rfl, by rw [ht]; exact hP, va_K.moved hW.alike hK, hD⟩, hS.F ht⟩) hS.2.2 dX1_word_47
set_option maxHeartbeats 4000000 in
set_option maxRecDepth 100000 in
/-- put(x1, x2, x3, x4): 16 places more -/
theorem m_put (l : Launch) (dC : Nat → ClassId) (dI : Nat → Nat → Nat) (h0 h1 : Nat) (d : ClassId) (f : Nat → Int32) (hs : Nat) (N : Nat) (x1 x2 x3 x4 : Int32) (hN : N + 16 ≤ 4096) : Met l yX1_put (ws_ yX1_put cX1_put 5 (some .boolean)) ({ frames := 1, cells := 0, slots := 0, locals := 22 }) (va_Pc [.ref h0, .int x1, .int x2, .int x3, .int x4] (wt_U dC dI h0 h1 d f (nI N) hs)) (va_Qi (fun r u => r = 1 ∧ u.2 = nI (N + 16)) (wt_B dC dI h0 h1 d (va_A (wt h0 h1 d f (nI N)) hs)) (va_A (wt h0 h1 d f (nI N)) hs)) 0 0 (va_A (wt h0 h1 d f (nI N)) hs) := by
  refine Met.ofW (cc := cX1_put) (maxL := 5) (ret := (some .boolean)) (by decide) rfl ?_
  intro p e s m args below meth c s₁ B hml hv
  obtain ⟨rfl, hsz, hP, hK, hD0⟩ := hv
  have hx := B.exec
  have hb := B.bytes
  have hr := B.returns
  have hts := atoms_spec (ws := ws_ yX1_put cX1_put 5 (some .boolean)) B.pre
  have hts : ∀ w ∈ lw_all, w.before _ s = true := fun w h => hts w (List.mem_cons_of_mem _ h)
  have hown : s.vm.findClass RX1 = some m.cls := findClass_of_methodNamed B.named
  have hlocks := B.notSynchronized
  subst hsz
  have hD := hD0.self (sz := s.heap.size)
  generalize hAe : va_A (wt h0 h1 d f (nI N)) s.heap.size = A at hD ⊢
  have hA : ∀ q : Nat, s.heap.size ≤ q → A q := fun q h => by rw [← hAe]; exact Or.inr h
  have hS : va_S A s.heap s.heap [] := va_S.rf
  have hl := lv_entry ([.ref h0, .int x1, .int x2, .int x3, .int x4]) (n := 5) (Nat.le_of_ble_eq_true rfl)
  rw [lg_entry_eq]
  generalize (lg_sl ([.ref h0, .int x1, .int x2, .int x3, .int x4]) ++ List.replicate (5 - (lg_sl ([.ref h0, .int x1, .int x2, .int x3, .int x4])).length) Slot.unset).toArray = ls at hl ⊢
  have hl : lv_has ls 5 [(0, .ref h0), (1, .int x1), (2, .int x2), (3, .int x3), (4, .int x4)] := hl
  refine lv_aload_n hx hb dX1_put_0 rfl (lv_at hl 0 rfl) ?_
  refine wt_gsize hx hb hts hown hK hP dX1_put_1 ?_
  refine lv_aload_n hx hb dX1_put_4 rfl (lv_at hl 0 rfl) ?_
  refine wt_gtext hx hb hts hown hK hP dX1_put_5 ?_
  refine va_alen (v := nI 4096) hx hb hK hP 1 0 rfl rfl rfl dX1_put_8 ?_
  refine lv_bipush (v := nI 16) hx hb dX1_put_9 (by decide) ?_
  refine lv_isub hx hb dX1_put_11 ?_
  refine tp_as (y := nI 4080) (pk_sub (a := 4096) (b := 16) (by decide)) ?_
  refine lv_icmp_le (tgt := 17) hx hb dX1_put_12 (by decide) (fun g => ?_) (fun g => ?_)
  · refine lv_aload_n hx hb dX1_put_17 rfl (lv_at hl 0 rfl) ?_
    refine lv_aload_n hx hb dX1_put_18 rfl (lv_at hl 0 rfl) ?_
    refine wt_gsize hx hb hts hown hK hP dX1_put_19 ?_
    refine lv_iload_n hx hb dX1_put_22 rfl (lv_at hl 1 rfl) ?_
    refine wt_callv (va_runV (As := [.int (nI (N)), .int x1]) (rest := []) ⟨hx, hb, hml, hown, hts⟩ (m_word l dC dI h0 h1 d _ _ (nI N) (N) x1 (by omega)) (cwV 2 hts (lw_V q32 q34 qs0 q5 q35) rfl rfl rfl (by decide +kernel) ⟨Nat.le_of_ble_eq_true rfl, Nat.le_of_ble_eq_true rfl⟩) (wt_preU hK hP hD) rfl rfl hl.1 rfl (lv_room (Nat.le_of_ble_eq_true rfl)) dX1_put_23 ⟨Nat.le_of_ble_eq_true rfl, Nat.le_of_ble_eq_true rfl⟩) hP hD hS hA (fun f n H locs hw hP hD hS => ?_)
    have hw : n = nI N := hw
    subst hw
    refine lv_aload_n hx hb dX1_put_26 rfl (lv_at hl 0 rfl) ?_
    refine lv_aload_n hx hb dX1_put_27 rfl (lv_at hl 0 rfl) ?_
    refine wt_gsize hx hb hts hown hK hP dX1_put_28 ?_
    refine lv_iconst (v := nI 4) hx hb dX1_put_31 (by decide) ?_
    refine lv_iadd hx hb dX1_put_32 ?_
    refine tp_as (y := nI (N + 4)) (nI_add N 4) ?_
    refine lv_iload_n hx hb dX1_put_33 rfl (lv_at hl 2 rfl) ?_
    refine wt_callv (va_runV (As := [.int (nI (N + 4)), .int x2]) (rest := []) ⟨hx, hb, hml, hown, hts⟩ (m_word l dC dI h0 h1 d _ _ (nI N) (N + 4) x2 (by omega)) (cwV 2 hts (lw_V q32 q34 qs0 q5 q35) rfl rfl rfl (by decide +kernel) ⟨Nat.le_of_ble_eq_true rfl, Nat.le_of_ble_eq_true rfl⟩) (wt_preU hK hP hD) rfl rfl hl.1 rfl (lv_room (Nat.le_of_ble_eq_true rfl)) dX1_put_34 ⟨Nat.le_of_ble_eq_true rfl, Nat.le_of_ble_eq_true rfl⟩) hP hD hS hA (fun f n H locs hw hP hD hS => ?_)
    have hw : n = nI N := hw
    subst hw
    refine lv_aload_n hx hb dX1_put_37 rfl (lv_at hl 0 rfl) ?_
    refine lv_aload_n hx hb dX1_put_38 rfl (lv_at hl 0 rfl) ?_
    refine wt_gsize hx hb hts hown hK hP dX1_put_39 ?_
    refine lv_bipush (v := nI 8) hx hb dX1_put_42 (by decide) ?_
    refine lv_iadd hx hb dX1_put_44 ?_
    refine tp_as (y := nI (N + 8)) (nI_add N 8) ?_
    refine lv_iload_n hx hb dX1_put_45 rfl (lv_at hl 3 rfl) ?_
    refine wt_callv (va_runV (As := [.int (nI (N + 8)), .int x3]) (rest := []) ⟨hx, hb, hml, hown, hts⟩ (m_word l dC dI h0 h1 d _ _ (nI N) (N + 8) x3 (by omega)) (cwV 2 hts (lw_V q32 q34 qs0 q5 q35) rfl rfl rfl (by decide +kernel) ⟨Nat.le_of_ble_eq_true rfl, Nat.le_of_ble_eq_true rfl⟩) (wt_preU hK hP hD) rfl rfl hl.1 rfl (lv_room (Nat.le_of_ble_eq_true rfl)) dX1_put_46 ⟨Nat.le_of_ble_eq_true rfl, Nat.le_of_ble_eq_true rfl⟩) hP hD hS hA (fun f n H locs hw hP hD hS => ?_)
    have hw : n = nI N := hw
    subst hw
    refine lv_aload_n hx hb dX1_put_49 rfl (lv_at hl 0 rfl) ?_
    refine lv_aload_n hx hb dX1_put_50 rfl (lv_at hl 0 rfl) ?_
    refine wt_gsize hx hb hts hown hK hP dX1_put_51 ?_
    refine lv_bipush (v := nI 12) hx hb dX1_put_54 (by decide) ?_
    refine lv_iadd hx hb dX1_put_56 ?_
    refine tp_as (y := nI (N + 12)) (nI_add N 12) ?_
    refine lv_iload hx hb dX1_put_57 (lv_at hl 4 rfl) ?_
    refine wt_callv (va_runV (As := [.int (nI (N + 12)), .int x4]) (rest := []) ⟨hx, hb, hml, hown, hts⟩ (m_word l dC dI h0 h1 d _ _ (nI N) (N + 12) x4 (by omega)) (cwV 2 hts (lw_V q32 q34 qs0 q5 q35) rfl rfl rfl (by decide +kernel) ⟨Nat.le_of_ble_eq_true rfl, Nat.le_of_ble_eq_true rfl⟩) (wt_preU hK hP hD) rfl rfl hl.1 rfl (lv_room (Nat.le_of_ble_eq_true rfl)) dX1_put_59 ⟨Nat.le_of_ble_eq_true rfl, Nat.le_of_ble_eq_true rfl⟩) hP hD hS hA (fun f n H locs hw hP hD hS => ?_)
    have hw : n = nI N := hw
    subst hw
    refine lv_aload_n hx hb dX1_put_62 rfl (lv_at hl 0 rfl) ?_
    refine lv_dup hx hb dX1_put_63 rfl ?_
    refine wt_gsize hx hb hts hown hK hP dX1_put_64 ?_
    refine lv_bipush (v := nI 16) hx hb dX1_put_67 (by decide) ?_
    refine lv_iadd hx hb dX1_put_69 ?_
    refine tp_as (y := nI (N + 16)) (nI_add N 16) ?_
    refine wt_psize hx hb hts hown hK hP hD hS dX1_put_70 (fun H locs hP hD hS => ?_)
    refine lv_iconst (v := 1) hx hb dX1_put_73 (by decide) ?_
    exact W.zret (v := 1) hx hb hr rfl (fun t ht hW => ⟨⟨1, (_, nI (N + 16)), rfl, ⟨rfl, rfl⟩, by rw [ht]; exact hP, va_K.moved hW.alike hK, hD⟩, hS.F ht⟩) hS.2.2 dX1_put_74
  · exact absurd (nI_le (by omega) (by decide)) g
set_option maxHeartbeats 4000000 in
set_option maxRecDepth 100000 in
/-- trim(a) -/
theorem m_trim (l : Launch) (dC : Nat → ClassId) (dI : Nat → Nat → Nat) (h0 h1 : Nat) (d : ClassId) (f : Nat → Int32) (hs : Nat) (N a : Nat) (hN : N ≤ 4096) (ha : a ≤ N) : Met l yX1_trim (ws_ yX1_trim cX1_trim 2 none) ({ frames := 1, cells := 0, slots := 0, locals := 21 }) (va_Pc [.ref h0, .int (nI a)] (wt_U dC dI h0 h1 d f (nI N) hs)) (va_Qv (fun u => u.1 = f ∧ u.2 = nI a) (wt_B dC dI h0 h1 d (va_A (wt h0 h1 d f (nI N)) hs)) (va_A (wt h0 h1 d f (nI N)) hs)) 0 0 (va_A (wt h0 h1 d f (nI N)) hs) := by
  refine Met.ofW (cc := cX1_trim) (maxL := 2) (ret := none) (by decide) rfl ?_
  intro p e s m args below meth c s₁ B hml hv
  obtain ⟨rfl, hsz, hP, hK, hD0⟩ := hv
  have hx := B.exec
  have hb := B.bytes
  have hr := B.returns
  have hts := atoms_spec (ws := ws_ yX1_trim cX1_trim 2 none) B.pre
  have hts : ∀ w ∈ lw_all, w.before _ s = true := fun w h => hts w (List.mem_cons_of_mem _ h)
  have hown : s.vm.findClass RX1 = some m.cls := findClass_of_methodNamed B.named
  have hlocks := B.notSynchronized
  subst hsz
  have hD := hD0.self (sz := s.heap.size)
  generalize hAe : va_A (wt h0 h1 d f (nI N)) s.heap.size = A at hD ⊢
  have hA : ∀ q : Nat, s.heap.size ≤ q → A q := fun q h => by rw [← hAe]; exact Or.inr h
  have hS : va_S A s.heap s.heap [] := va_S.rf
  have hl := lv_entry ([.ref h0, .int (nI a)]) (n := 2) (Nat.le_of_ble_eq_true rfl)
  rw [lg_entry_eq]
  generalize (lg_sl ([.ref h0, .int (nI a)]) ++ List.replicate (2 - (lg_sl ([.ref h0, .int (nI a)])).length) Slot.unset).toArray = ls at hl ⊢
  have hl : lv_has ls 2 [(0, .ref h0), (1, .int (nI a))] := hl
  refine lv_aload_n hx hb dX1_trim_0 rfl (lv_at hl 0 rfl) ?_
  refine lv_aload_n hx hb dX1_trim_1 rfl (lv_at hl 0 rfl) ?_
  refine lv_iload_n hx hb dX1_trim_2 rfl (lv_at hl 1 rfl) ?_
  refine rd_call (W.runV (As := [.int (nI a)]) (rest := [.ref h0]) ⟨hx, hb, hml, hown, hts⟩ (m_from l dC dI h0 h1 d f N a hN (by omega)) (cwV 1 hts (lw_V q40 q42 qs1 q5 q43) rfl rfl rfl (by decide +kernel) ⟨Nat.le_of_ble_eq_true rfl, Nat.le_of_ble_eq_true rfl⟩) (wt_preR hK hP) rfl rfl hl.1 rfl (lv_room (Nat.le_of_ble_eq_true rfl)) dX1_trim_3 ⟨Nat.le_of_ble_eq_true rfl, Nat.le_of_ble_eq_true rfl⟩) ?_
  refine tp_as (y := nI a) (by rw [Nat.mod_eq_of_lt (by omega)]) ?_
  refine wt_psize hx hb hts hown hK hP hD hS dX1_trim_6 (fun H locs hP hD hS => ?_)
  exact W.vret hx hb hr (fun t ht hW => ⟨⟨(f, nI a), rfl, ⟨rfl, rfl⟩, by rw [ht]; exact hP, va_K.moved hW.alike hK, hD⟩, hS.F ht⟩) hS.2.2 dX1_trim_9
/-- behind the constructor: u is the array's place and class -/
def wt_N (dC : Nat → ClassId) (dI : Nat → Nat → Nat) (h0 : Nat) (A : Nat → Prop) (u : Nat × ClassId) (t : State) : Prop :=
  va_P (dC, dI) vwCl (wt h0 u.1 u.2 (fun _ => 0) 0) t.heap ∧ va_K (dC, dI) vwCl [(u.2, .byte)] t ∧ va_D A (wt h0 u.1 u.2 (fun _ => 0) 0)
set_option maxHeartbeats 4000000 in
set_option maxRecDepth 100000 in
/-- WireText(): a new array of 4096 zeros -/
theorem m_init (l : Launch) (dC : Nat → ClassId) (dI : Nat → Nat → Nat) (h0 hs : Nat) : Met l yX1_init (ws_ yX1_init cX1_init 1 none) ({ frames := 1, cells := 1, slots := 4096, locals := 12 }) (va_Pc [.ref h0] (fun U => U.heap.size = hs ∧ va_P (dC, dI) vwCl [(h0, .inr (0, [.null, .int 0]))] U.heap ∧ va_K (dC, dI) vwCl [] U ∧ va_D (fun _ => True) [(h0, .inr (0, [.null, .int 0]))])) (va_Qv (fun _ => True) (wt_N dC dI h0 (va_A [(h0, .inr (0, [.null, .int 0]))] hs)) (va_A [(h0, .inr (0, [.null, .int 0]))] hs)) 1 4096 (va_A [(h0, .inr (0, [.null, .int 0]))] hs) := by
  refine Met.ofW (cc := cX1_init) (maxL := 1) (ret := none) (by decide) rfl ?_
  intro p e s m args below meth c s₁ B hml hv
  obtain ⟨rfl, hsz, hP, hK, hD0⟩ := hv
  have hx := B.exec
  have hb := B.bytes
  have hr := B.returns
  have hts := atoms_spec (ws := ws_ yX1_init cX1_init 1 none) B.pre
  have hts : ∀ w ∈ lw_all, w.before _ s = true := fun w h => hts w (List.mem_cons_of_mem _ h)
  have hown : s.vm.findClass RX1 = some m.cls := findClass_of_methodNamed B.named
  have hlocks := B.notSynchronized
  subst hsz
  have hD := hD0.self (sz := s.heap.size)
  generalize hAe : va_A ([(h0, .inr (0, [.null, .int 0]))]) s.heap.size = A at hD ⊢
  have hA : ∀ q : Nat, s.heap.size ≤ q → A q := fun q h => by rw [← hAe]; exact Or.inr h
  have hS : va_S A s.heap s.heap [] := va_S.rf
  have hin : meth.name = "<init>" := (name_of_methodNamed B.named B.method).1
  have hl := lv_entry ([.ref h0]) (n := 1) (Nat.le_of_ble_eq_true rfl)
  rw [lg_entry_eq]
  generalize (lg_sl ([.ref h0]) ++ List.replicate (1 - (lg_sl ([.ref h0])).length) Slot.unset).toArray = ls at hl ⊢
  have hl : lv_has ls 1 [(0, .ref h0)] := hl
  refine lv_aload_n hx hb dX1_init_0 rfl (lv_at hl 0 rfl) ?_
  refine W.objInit hx hb hown (hts _ q17) (hts _ q18) (hts _ q19) rfl (by rw [hml]; exact hl.1) rfl dX1_init_1 (Nat.le_of_ble_eq_true rfl) (Nat.le_of_ble_eq_true rfl) ?_
  refine W.eq (g2 := F0 m 4 ls []) rfl ?_
  refine lv_aload_n hx hb dX1_init_4 rfl (lv_at hl 0 rfl) ?_
  refine lv_sipush (v := nI 4096) hx hb dX1_init_5 (by decide) ?_
  refine va_newa (atype := .byte) (ty := .byte) (a0 := (4096, .inl (fun _ => 0))) hx hb (hts _ q27) rfl hK hP hD hS hA (fun _ => rfl) (nI_pos (by decide)) (nI_clamp (by decide)) (Nat.le_of_ble_eq_true rfl) (Nat.le_of_ble_eq_true rfl) (Nat.le_of_ble_eq_true rfl) dX1_init_8 (fun h1 d H hK hP hD hS => ?_)
  have hP : va_P (dC, dI) vwCl [(h0, .inr (0, [.null, .int 0])), (h1, .inl (d, 4096, .inl (fun _ => 0)))] H := hP
  have hD : va_D A [(h0, .inr (0, [.null, .int 0])), (h1, .inl (d, 4096, .inl (fun _ => 0)))] := hD
  refine va_putF (D := (dC, dI)) (ci := 0) (v := .ref h1) (ty := .array .byte) (C := RX1) (T := TX1) (N := 2) hx hb hts in_X1 tyX1 tyX1_ok nmX1 hown hK hP hD hS 0 rfl rfl 0 (by decide) (hts _ q20) (fun _ h9 => h9) rfl hin rfl (by decide +kernel) rfl rfl (Nat.le_of_ble_eq_true rfl) dX1_init_10 (fun H locs hP hD hS => ?_)
  refine W.widen (k := 1) (n := 4096) (Nat.le_of_ble_eq_true rfl) (Nat.le_of_ble_eq_true rfl) ?_
  exact W.vret hx hb hr (fun t ht hW => ⟨⟨(h1, d), rfl, trivial, by rw [ht]; exact hP, va_K.moved hW.alike hK, hD⟩, hS.F ht⟩) hS.2.2 dX1_init_13
end
section
/-! the letters that the law writes -/
theorem i32_nat (x : Int32) : ∃ n, n < 2 ^ 32 ∧ x = nI n := ⟨x.toBitVec.toNat, x.toBitVec.isLt, Int32.toBitVec_inj.mp (by show _ = BitVec.ofNat 32 _; simp)⟩
theorem sg_at {f : Nat → Int32} {N i : Nat} {z : Int32} (hi : i < N) (hN : N ≤ 4096) : sg_f f N (nI i) z = upd f i z.toInt8.toInt32 := by
  unfold sg_f
  rw [if_neg (by omega), pk_tn (by omega), Nat.mod_eq_of_lt (a := i) (b := 2 ^ 31) (by omega), Nat.mod_eq_of_lt hi]
theorem by_1 : ∀ m, m < 128 → 0 ≤ (nI m).toInt8.toInt32 := by decide +kernel
theorem by_c : ∀ m, m < 64 → ((128 : Int32) ||| nI m).toInt8.toInt32 ≤ -65 ∧ ¬ -65 < ((128 : Int32) ||| nI m).toInt8.toInt32 := by decide +kernel
theorem by_2 : ∀ m, m < 32 → 2 ≤ m → ¬ 0 ≤ ((192 : Int32) ||| nI m).toInt8.toInt32 ∧ ¬ -32 ≤ ((192 : Int32) ||| nI m).toInt8.toInt32 ∧ ¬ ((192 : Int32) ||| nI m).toInt8.toInt32 < -62 := by decide +kernel
theorem by_3 : ∀ m, m < 16 → ¬ 0 ≤ ((224 : Int32) ||| nI m).toInt8.toInt32 ∧ -32 ≤ ((224 : Int32) ||| nI m).toInt8.toInt32 ∧ ¬ -16 ≤ ((224 : Int32) ||| nI m).toInt8.toInt32 ∧ (((224 : Int32) ||| nI m).toInt8.toInt32 = -32 → m = 0) ∧ (((224 : Int32) ||| nI m).toInt8.toInt32 = -19 → m = 13) := by decide +kernel
theorem by_3b : ∀ m, m < 64 → (32 ≤ m → ¬ ((128 : Int32) ||| nI m).toInt8.toInt32 < -96) ∧ (m < 32 → ¬ -96 ≤ ((128 : Int32) ||| nI m).toInt8.toInt32) := by decide +kernel
theorem by_4 : ∀ m, m < 5 → ¬ 0 ≤ ((240 : Int32) ||| nI m).toInt8.toInt32 ∧ -32 ≤ ((240 : Int32) ||| nI m).toInt8.toInt32 ∧ -16 ≤ ((240 : Int32) ||| nI m).toInt8.toInt32 := by decide +kernel
theorem by_4b : ∀ m, m < 5 → ∀ q, q < 64 → (m = 0 → 16 ≤ q) → (m = 4 → q < 16) → ((((240 : Int32) ||| nI m).toInt8.toInt32 <<< ((28 : Int32) &&& 31)) + (((128 : Int32) ||| nI q).toInt8.toInt32 - (-112))) >>> ((30 : Int32) &&& 31) = 0 := by decide +kernel
theorem lt_1 (f : Nat → Int32) (a m : Nat) (hm : m < 128) : u8_L (upd f a (nI m).toInt8.toInt32) a 1 := by
  refine Or.inl ⟨rfl, ?_⟩
  rw [pk_us]
  exact by_1 m hm
theorem lt_2 (f : Nat → Int32) (a w : Nat) (h1 : 128 ≤ w) (h2 : w < 2048) : u8_L (upd (upd f a ((192 : Int32) ||| nI (w / 64)).toInt8.toInt32) (a + 1) ((128 : Int32) ||| nI (w % 64)).toInt8.toInt32) a 2 := by
  obtain ⟨x1, x2, x3⟩ := by_2 (w / 64) (by omega) (by omega)
  refine Or.inr (Or.inl ⟨rfl, ?_⟩)
  rw [pk_un (j := a) (k := a + 1) (by omega), pk_us, pk_us]
  exact ⟨x1, x2, x3, (by_c _ (by omega)).1⟩
theorem lt_3 (f : Nat → Int32) (a w : Nat) (h1 : 2048 ≤ w) (h2 : w < 65536) (h3 : w < 55296 ∨ 57344 ≤ w) : u8_L (upd (upd (upd f a ((224 : Int32) ||| nI (w / 4096)).toInt8.toInt32) (a + 1) ((128 : Int32) ||| nI (w / 64 % 64)).toInt8.toInt32) (a + 2) ((128 : Int32) ||| nI (w % 64)).toInt8.toInt32) a 3 := by
  obtain ⟨x1, x2, x3, x4, x5⟩ := by_3 (w / 4096) (by omega)
  obtain ⟨y1, y2⟩ := by_3b (w / 64 % 64) (by omega)
  refine Or.inr (Or.inr (Or.inl ⟨rfl, ?_⟩))
  rw [pk_un (j := a) (k := a + 2) (by omega), pk_un (j := a) (k := a + 1) (by omega), pk_us, pk_un (j := a + 1) (k := a + 2) (by omega), pk_us, pk_us]
  refine ⟨x1, x2, x3, (by_c _ (by omega)).2, fun q => y1 ?_, fun q => y2 ?_, (by_c _ (by omega)).1⟩
  · have := x4 q; omega
  · have := x5 q; omega
theorem lt_4 (f : Nat → Int32) (a w : Nat) (h1 : 65536 ≤ w) (h2 : w < 1114112) : u8_L (upd (upd (upd (upd f a ((240 : Int32) ||| nI (w / 262144)).toInt8.toInt32) (a + 1) ((128 : Int32) ||| nI (w / 4096 % 64)).toInt8.toInt32) (a + 2) ((128 : Int32) ||| nI (w / 64 % 64)).toInt8.toInt32) (a + 3) ((128 : Int32) ||| nI (w % 64)).toInt8.toInt32) a 4 := by
  obtain ⟨x1, x2, x3⟩ := by_4 (w / 262144) (by omega)
  refine Or.inr (Or.inr (Or.inr ⟨rfl, ?_⟩))
  rw [pk_un (j := a) (k := a + 3) (by omega), pk_un (j := a) (k := a + 2) (by omega), pk_un (j := a) (k := a + 1) (by omega), pk_us, pk_un (j := a + 1) (k := a + 3) (by omega), pk_un (j := a + 1) (k := a + 2) (by omega), pk_us, pk_un (j := a + 2) (k := a + 3) (by omega), pk_us, pk_us]
  exact ⟨x1, x2, x3, (by_c _ (by omega)).2, by_4b _ (by omega) _ (by omega) (fun q => by omega) (fun q => by omega), (by_c _ (by omega)).2, (by_c _ (by omega)).1⟩
/-- the script's place k, 0 behind its end -/
def cl_v (L : Nat) (xs : Nat → Int32) (k : Nat) : Int32 := if k < L then xs k else 0
set_option maxHeartbeats 4000000 in
set_option maxRecDepth 100000 in
/-- cell(script, k) -/
theorem m_cell (l : Launch) (b L : Nat) (xs : Nat → Int32) (k : Nat) (hL : L ≤ 40) (hk : k < 2 ^ 31) : Met l yX0_cell (ws_ yX0_cell cX0_cell 2 (some .int)) ({ frames := 0, cells := 0, slots := 0, locals := 0 }) (va_Pc [.ref b, .int (nI k)] (fun U => va_X b L xs U U.heap)) (QcRead (cl_v L xs k)) 0 0 (fun _ => False) := by
  refine Met.ofW (cc := cX0_cell) (maxL := 2) (ret := (some .int)) (by decide) rfl ?_
  intro p e s m args below meth c s₁ B hml hv
  obtain ⟨rfl, hX⟩ := hv
  have hx := B.exec
  have hb := B.bytes
  have hr := B.returns
  have hts := atoms_spec (ws := ws_ yX0_cell cX0_cell 2 (some .int)) B.pre
  have hts : ∀ w ∈ lw_all, w.before _ s = true := fun w h => hts w (List.mem_cons_of_mem _ h)
  have hown : s.vm.findClass RX0 = some m.cls := findClass_of_methodNamed B.named
  have hlocks := B.notSynchronized
  have hbl : b < s.heap.size := by obtain ⟨scr, h1, -⟩ := hX; exact (Array.getElem?_eq_some_iff.mp h1).1
  have hS : va_S (fun _ => False) s.heap s.heap [] := va_S.rf
  have hbA : ¬ (fun _ : Nat => False) b := fun h => h
  have hl := lv_entry ([.ref b, .int (nI k)]) (n := 2) (Nat.le_of_ble_eq_true rfl)
  rw [lg_entry_eq]
  generalize (lg_sl ([.ref b, .int (nI k)]) ++ List.replicate (2 - (lg_sl ([.ref b, .int (nI k)])).length) Slot.unset).toArray = ls at hl ⊢
  have hl : lv_has ls 2 [(0, .ref b), (1, .int (nI k))] := hl
  refine lv_iload_n hx hb dX0_cell_0 rfl (lv_at hl 1 rfl) ?_
  refine lv_aload_n hx hb dX0_cell_1 rfl (lv_at hl 0 rfl) ?_
  refine va_slen hx hb hX hbl hbA hS dX0_cell_2 ?_
  refine lv_icmp_ge (tgt := 12) hx hb dX0_cell_3 (by decide) (fun g => ?_) (fun g => ?_)
  · have hkL : ¬ k < L := Nat.not_lt.mpr ((nI_leI (by omega) hk).mp g)
    refine lv_iconst (v := 0) hx hb dX0_cell_12 (by decide) ?_
    exact W.iret (v := 0) hx hb hr (fun t ht _ => ⟨by unfold cl_v; rw [if_neg hkL], ht⟩) (fun q h => by cases h) dX0_cell_13
  · have hkL : k < L := Nat.not_le.mp (fun q => g (nI_le q hk))
    refine lv_aload_n hx hb dX0_cell_6 rfl (lv_at hl 0 rfl) ?_
    refine lv_iload_n hx hb dX0_cell_7 rfl (lv_at hl 1 rfl) ?_
    refine va_sld hx hb hX hbl hbA hS (vp_in_nI hkL (by omega)) dX0_cell_8 ?_
    refine lv_goto (tgt := 13) hx hb dX0_cell_9 (by decide) ?_
    exact W.iret (v := xs (nI k).toNatClampNeg) hx hb hr (fun t ht _ => ⟨by unfold cl_v; rw [if_pos hkL, nI_clamp hk], ht⟩) (fun q h => by cases h) dX0_cell_13
set_option maxHeartbeats 4000000 in
set_option maxRecDepth 100000 in
/-- lay(x, a, z): one letter from a on; what stands ahead of it stays -/
theorem m_lay (l : Launch) (dC : Nat → ClassId) (dI : Nat → Nat → Nat) (h0 h1 : Nat) (d : ClassId) (f : Nat → Int32) (hs : Nat) (a : Nat) (z : Int32) (ha : a ≤ 156) : Met l yX0_lay (ws_ yX0_lay cX0_lay 4 (some .int)) ({ frames := 1, cells := 0, slots := 0, locals := 23 }) (va_Pc [.ref h0, .int (nI a), .int z] (wt_U dC dI h0 h1 d f (nI 160) hs)) (va_Qi (fun r u => ∃ j, u8_L u.1 a j ∧ r = nI (a + j) ∧ (∀ q, q < a → u.1 q = f q) ∧ u.2 = nI 160) (wt_B dC dI h0 h1 d (va_A (wt h0 h1 d f (nI 160)) hs)) (va_A (wt h0 h1 d f (nI 160)) hs)) 0 0 (va_A (wt h0 h1 d f (nI 160)) hs) := by
  obtain ⟨cn, hcn, rfl⟩ := i32_nat z
  refine Met.ofW (cc := cX0_lay) (maxL := 4) (ret := (some .int)) (by decide) rfl ?_
  intro p e s m args below meth c s₁ B hml hv
  obtain ⟨rfl, hsz, hP, hK, hD0⟩ := hv
  have hx := B.exec
  have hb := B.bytes
  have hr := B.returns
  have hts := atoms_spec (ws := ws_ yX0_lay cX0_lay 4 (some .int)) B.pre
  have hts : ∀ w ∈ lw_all, w.before _ s = true := fun w h => hts w (List.mem_cons_of_mem _ h)
  have hown : s.vm.findClass RX0 = some m.cls := findClass_of_methodNamed B.named
  have hlocks := B.notSynchronized
  subst hsz
  have hD := hD0.self (sz := s.heap.size)
  generalize hAe : va_A (wt h0 h1 d f (nI 160)) s.heap.size = A at hD ⊢
  have hA : ∀ q : Nat, s.heap.size ≤ q → A q := fun q h => by rw [← hAe]; exact Or.inr h
  have hS : va_S A s.heap s.heap [] := va_S.rf
  have hl := lv_entry ([.ref h0, .int (nI a), .int (nI cn)]) (n := 4) (Nat.le_of_ble_eq_true rfl)
  rw [lg_entry_eq]
  generalize (lg_sl ([.ref h0, .int (nI a), .int (nI cn)]) ++ List.replicate (4 - (lg_sl ([.ref h0, .int (nI a), .int (nI cn)])).length) Slot.unset).toArray = ls at hl ⊢
  have hl : lv_has ls 4 [(0, .ref h0), (1, .int (nI a)), (2, .int (nI cn))] := hl
  refine lv_iload_n hx hb dX0_lay_0 rfl (lv_at hl 2 rfl) ?_
  refine lv_iconst (v := 2) hx hb dX0_lay_1 (by decide) ?_
  refine lv_iushr (v := nI (cn / 4)) hx hb dX0_lay_2 (pk_ushrN hcn 2 2 (by decide)) ?_
  refine lv_istore_n (lv' := [(3, .int (nI (cn / 4))), (0, .ref h0), (1, .int (nI a)), (2, .int (nI cn))]) hx hb dX0_lay_3 rfl hl (by decide) rfl (fun ls hl => ?_)
  refine lv_iload_n hx hb dX0_lay_4 rfl (lv_at hl 3 rfl) ?_
  refine lv_iconst (v := 3) hx hb dX0_lay_5 (by decide) ?_
  refine lv_iand hx hb dX0_lay_6 ?_
  refine tp_as (y := nI (cn % 4)) (pk_andN hcn 2 (by decide)) ?_
  refine lv_if_ne (tgt := 23) hx hb dX0_lay_7 (by decide) (fun g0 => ?_) (fun g0 => ?_)
  · refine lv_iload_n hx hb dX0_lay_23 rfl (lv_at hl 3 rfl) ?_
    refine lv_iconst (v := 3) hx hb dX0_lay_24 (by decide) ?_
    refine lv_iand hx hb dX0_lay_25 ?_
    refine tp_as (y := nI (cn % 4)) (pk_andN hcn 2 (by decide)) ?_
    refine lv_iconst (v := 1) hx hb dX0_lay_26 (by decide) ?_
    refine lv_icmp_ne (tgt := 72) hx hb dX0_lay_27 (by decide) (fun g1 => ?_) (fun g1 => ?_)
    · refine lv_iload_n hx hb dX0_lay_72 rfl (lv_at hl 3 rfl) ?_
      refine lv_iconst (v := 3) hx hb dX0_lay_73 (by decide) ?_
      refine lv_iand hx hb dX0_lay_74 ?_
      refine tp_as (y := nI (cn % 4)) (pk_andN hcn 2 (by decide)) ?_
      refine lv_iconst (v := 2) hx hb dX0_lay_75 (by decide) ?_
      refine lv_icmp_ne (tgt := 154) hx hb dX0_lay_76 (by decide) (fun g2 => ?_) (fun g2 => ?_)
      · refine lv_ldc hx hb hown (hts _ q143) dX0_lay_154 ?_
        refine tp_as (y := nI 65536) (by decide) ?_
        refine lv_iload_n hx hb dX0_lay_156 rfl (lv_at hl 0 rfl) ?_
        refine lv_ldc hx hb hown (hts _ q144) dX0_lay_157 ?_
        refine lv_iand hx hb dX0_lay_159 ?_
        refine tp_as (y := nI (cn / 4 % 1048576)) (pk_andN (by omega) 20 (by decide)) ?_
        refine lv_iadd hx hb dX0_lay_160 ?_
        refine tp_as (y := nI (65536 + cn / 4 % 1048576)) (nI_add _ _) ?_
        obtain ⟨w, hw⟩ : ∃ w, w = 65536 + cn / 4 % 1048576 := ⟨_, rfl⟩
        rw [← hw]
        have hw1 : 65536 ≤ w := by omega
        have hw2 : w < 1114112 := by omega
        refine lv_istore_n (lv' := [(3, .int (nI w)), (0, .ref h0), (1, .int (nI a)), (2, .int (nI cn))]) hx hb dX0_lay_161 rfl hl (by decide) rfl (fun ls hl => ?_)
        refine lv_aload_n hx hb dX0_lay_162 rfl (lv_at hl 1 rfl) ?_
        refine lv_iload_n hx hb dX0_lay_163 rfl (lv_at hl 2 rfl) ?_
        refine lv_sipush (v := 240) hx hb dX0_lay_164 (by decide) ?_
        refine lv_iload_n hx hb dX0_lay_167 rfl (lv_at hl 0 rfl) ?_
        refine lv_bipush (v := 18) hx hb dX0_lay_168 (by decide) ?_
        refine lv_ishr hx hb dX0_lay_170 ?_
        refine tp_as (y := nI (w / 262144)) (pk_shrN (by omega) _ 18 (by decide)) ?_
        refine lv_ior hx hb dX0_lay_171 ?_
        refine wt_callv (va_runV (As := [.int (nI (a)), .int (240 ||| nI (w / 262144))]) (rest := []) ⟨hx, hb, hml, hown, hts⟩ (m_sign l dC dI h0 h1 d _ _ 160 (nI (a)) (240 ||| nI (w / 262144)) (by decide)) (cwV 2 hts (lw_V q131 q132 q133 q5 q134) rfl rfl rfl (by decide +kernel) ⟨Nat.le_of_ble_eq_true rfl, Nat.le_of_ble_eq_true rfl⟩) (wt_preU hK hP hD) rfl rfl hl.1 rfl (lv_room (Nat.le_of_ble_eq_true rfl)) dX0_lay_172 ⟨Nat.le_of_ble_eq_true rfl, Nat.le_of_ble_eq_true rfl⟩) hP hD hS hA (fun f1 n1 H locs hw hP hD hS => ?_)
        obtain ⟨hf1, hn1⟩ := hw
        have hn1 : n1 = nI 160 := hn1
        subst hn1
        have hf1 := hf1.trans (sg_at (by omega) (by decide))
        dsimp only at hf1
        subst hf1
        refine lv_aload_n hx hb dX0_lay_175 rfl (lv_at hl 1 rfl) ?_
        refine lv_iload_n hx hb dX0_lay_176 rfl (lv_at hl 2 rfl) ?_
        refine lv_iconst (v := nI 1) hx hb dX0_lay_177 (by decide) ?_
        refine lv_iadd hx hb dX0_lay_178 ?_
        refine tp_as (y := nI (a + 1)) (nI_add a 1) ?_
        refine lv_sipush (v := 128) hx hb dX0_lay_179 (by decide) ?_
        refine lv_iload_n hx hb dX0_lay_182 rfl (lv_at hl 0 rfl) ?_
        refine lv_bipush (v := 12) hx hb dX0_lay_183 (by decide) ?_
        refine lv_ishr hx hb dX0_lay_185 ?_
        refine tp_as (y := nI (w / 4096)) (pk_shrN (by omega) _ 12 (by decide)) ?_
        refine lv_bipush (v := 63) hx hb dX0_lay_186 (by decide) ?_
        refine lv_iand hx hb dX0_lay_188 ?_
        refine tp_as (y := nI ((w / 4096) % 64)) (pk_andN (by omega) 6 (by decide)) ?_
        refine lv_ior hx hb dX0_lay_189 ?_
        refine wt_callv (va_runV (As := [.int (nI (a + 1)), .int (128 ||| nI (w / 4096 % 64))]) (rest := []) ⟨hx, hb, hml, hown, hts⟩ (m_sign l dC dI h0 h1 d _ _ 160 (nI (a + 1)) (128 ||| nI (w / 4096 % 64)) (by decide)) (cwV 2 hts (lw_V q131 q132 q133 q5 q134) rfl rfl rfl (by decide +kernel) ⟨Nat.le_of_ble_eq_true rfl, Nat.le_of_ble_eq_true rfl⟩) (wt_preU hK hP hD) rfl rfl hl.1 rfl (lv_room (Nat.le_of_ble_eq_true rfl)) dX0_lay_190 ⟨Nat.le_of_ble_eq_true rfl, Nat.le_of_ble_eq_true rfl⟩) hP hD hS hA (fun f1 n1 H locs hw hP hD hS => ?_)
        obtain ⟨hf1, hn1⟩ := hw
        have hn1 : n1 = nI 160 := hn1
        subst hn1
        have hf1 := hf1.trans (sg_at (by omega) (by decide))
        dsimp only at hf1
        subst hf1
        refine lv_aload_n hx hb dX0_lay_193 rfl (lv_at hl 1 rfl) ?_
        refine lv_iload_n hx hb dX0_lay_194 rfl (lv_at hl 2 rfl) ?_
        refine lv_iconst (v := nI 2) hx hb dX0_lay_195 (by decide) ?_
        refine lv_iadd hx hb dX0_lay_196 ?_
        refine tp_as (y := nI (a + 2)) (nI_add a 2) ?_
        refine lv_sipush (v := 128) hx hb dX0_lay_197 (by decide) ?_
        refine lv_iload_n hx hb dX0_lay_200 rfl (lv_at hl 0 rfl) ?_
        refine lv_bipush (v := 6) hx hb dX0_lay_201 (by decide) ?_
        refine lv_ishr hx hb dX0_lay_203 ?_
        refine tp_as (y := nI (w / 64)) (pk_shrN (by omega) _ 6 (by decide)) ?_
        refine lv_bipush (v := 63) hx hb dX0_lay_204 (by decide) ?_
        refine lv_iand hx hb dX0_lay_206 ?_
        refine tp_as (y := nI ((w / 64) % 64)) (pk_andN (by omega) 6 (by decide)) ?_
        refine lv_ior hx hb dX0_lay_207 ?_
        refine wt_callv (va_runV (As := [.int (nI (a + 2)), .int (128 ||| nI (w / 64 % 64))]) (rest := []) ⟨hx, hb, hml, hown, hts⟩ (m_sign l dC dI h0 h1 d _ _ 160 (nI (a + 2)) (128 ||| nI (w / 64 % 64)) (by decide)) (cwV 2 hts (lw_V q131 q132 q133 q5 q134) rfl rfl rfl (by decide +kernel) ⟨Nat.le_of_ble_eq_true rfl, Nat.le_of_ble_eq_true rfl⟩) (wt_preU hK hP hD) rfl rfl hl.1 rfl (lv_room (Nat.le_of_ble_eq_true rfl)) dX0_lay_208 ⟨Nat.le_of_ble_eq_true rfl, Nat.le_of_ble_eq_true rfl⟩) hP hD hS hA (fun f1 n1 H locs hw hP hD hS => ?_)
        obtain ⟨hf1, hn1⟩ := hw
        have hn1 : n1 = nI 160 := hn1
        subst hn1
        have hf1 := hf1.trans (sg_at (by omega) (by decide))
        dsimp only at hf1
        subst hf1
        refine lv_aload_n hx hb dX0_lay_211 rfl (lv_at hl 1 rfl) ?_
        refine lv_iload_n hx hb dX0_lay_212 rfl (lv_at hl 2 rfl) ?_
        refine lv_iconst (v := nI 3) hx hb dX0_lay_213 (by decide) ?_
        refine lv_iadd hx hb dX0_lay_214 ?_
        refine tp_as (y := nI (a + 3)) (nI_add a 3) ?_
        refine lv_sipush (v := 128) hx hb dX0_lay_215 (by decide) ?_
        refine lv_iload_n hx hb dX0_lay_218 rfl (lv_at hl 0 rfl) ?_
        refine lv_bipush (v := 63) hx hb dX0_lay_219 (by decide) ?_
        refine lv_iand hx hb dX0_lay_221 ?_
        refine tp_as (y := nI (w % 64)) (pk_andN (by omega) 6 (by decide)) ?_
        refine lv_ior hx hb dX0_lay_222 ?_
        refine wt_callv (va_runV (As := [.int (nI (a + 3)), .int (128 ||| nI (w % 64))]) (rest := []) ⟨hx, hb, hml, hown, hts⟩ (m_sign l dC dI h0 h1 d _ _ 160 (nI (a + 3)) (128 ||| nI (w % 64)) (by decide)) (cwV 2 hts (lw_V q131 q132 q133 q5 q134) rfl rfl rfl (by decide +kernel) ⟨Nat.le_of_ble_eq_true rfl, Nat.le_of_ble_eq_true rfl⟩) (wt_preU hK hP hD) rfl rfl hl.1 rfl (lv_room (Nat.le_of_ble_eq_true rfl)) dX0_lay_223 ⟨Nat.le_of_ble_eq_true rfl, Nat.le_of_ble_eq_true rfl⟩) hP hD hS hA (fun f1 n1 H locs hw hP hD hS => ?_)
        obtain ⟨hf1, hn1⟩ := hw
        have hn1 : n1 = nI 160 := hn1
        subst hn1
        have hf1 := hf1.trans (sg_at (by omega) (by decide))
        dsimp only at hf1
        subst hf1
        refine lv_iload_n hx hb dX0_lay_226 rfl (lv_at hl 2 rfl) ?_
        refine lv_iconst (v := nI 4) hx hb dX0_lay_227 (by decide) ?_
        refine lv_iadd hx hb dX0_lay_228 ?_
        refine tp_as (y := nI (a + 4)) (nI_add a 4) ?_
        exact W.iret (v := nI (a + 4)) hx hb hr (fun t ht hW => ⟨⟨nI (a + 4), (_, nI 160), rfl, ⟨4, lt_4 f a w hw1 hw2, rfl, fun q hq => (pk_un (k := a + 3) (by omega)).trans ((pk_un (k := a + 2) (by omega)).trans ((pk_un (k := a + 1) (by omega)).trans (pk_un (k := a) (by omega)))), rfl⟩, by rw [ht]; exact hP, va_K.moved hW.alike hK, hD⟩, hS.F ht⟩) hS.2.2 dX0_lay_229
      · refine lv_sipush (v := nI 2048) hx hb dX0_lay_79 (by decide) ?_
        refine lv_iload_n hx hb dX0_lay_82 rfl (lv_at hl 0 rfl) ?_
        refine lv_ldc hx hb hown (hts _ q141) dX0_lay_83 ?_
        refine tp_as (y := nI 61440) (by decide) ?_
        refine lv_irem hx hb dX0_lay_85 (nI_ne0 (by decide) (by decide)) ?_
        refine tp_as (y := nI (cn / 4 % 61440)) (pk_rem (by omega) (by decide) (by decide)) ?_
        refine lv_iadd hx hb dX0_lay_86 ?_
        refine tp_as (y := nI (2048 + cn / 4 % 61440)) (nI_add _ _) ?_
        obtain ⟨w, hw⟩ : ∃ w, w = 2048 + cn / 4 % 61440 := ⟨_, rfl⟩
        rw [← hw]
        have hw1 : 2048 ≤ w := by omega
        have hw2 : w < 63488 := by omega
        refine lv_istore_n (lv' := [(3, .int (nI w)), (0, .ref h0), (1, .int (nI a)), (2, .int (nI cn))]) hx hb dX0_lay_87 rfl hl (by decide) rfl (fun ls hl => ?_)
        refine lv_iload_n hx hb dX0_lay_88 rfl (lv_at hl 0 rfl) ?_
        refine lv_iload_n hx hb dX0_lay_89 rfl (lv_at hl 0 rfl) ?_
        refine lv_ldc hx hb hown (hts _ q142) dX0_lay_90 ?_
        refine tp_as (y := nI 55296) (by decide) ?_
        refine lv_icmp_lt (tgt := 101) hx hb dX0_lay_92 (by decide) (fun g3 => ?_) (fun g3 => ?_)
        · have hlo : w < 55296 := (nI_ltI (by omega) (by decide)).mp g3
          refine lv_iconst (v := nI 0) hx hb dX0_lay_101 (by decide) ?_
          refine lv_iadd hx hb dX0_lay_102 ?_
          refine tp_as (y := nI (w + 0)) (nI_add _ _) ?_
          refine lv_istore_n (lv' := [(3, .int (nI (w + 0))), (0, .ref h0), (1, .int (nI a)), (2, .int (nI cn))]) hx hb dX0_lay_103 rfl hl (by decide) rfl (fun ls hl => ?_)
          refine lv_aload_n hx hb dX0_lay_104 rfl (lv_at hl 1 rfl) ?_
          refine lv_iload_n hx hb dX0_lay_105 rfl (lv_at hl 2 rfl) ?_
          refine lv_sipush (v := 224) hx hb dX0_lay_106 (by decide) ?_
          refine lv_iload_n hx hb dX0_lay_109 rfl (lv_at hl 0 rfl) ?_
          refine lv_bipush (v := 12) hx hb dX0_lay_110 (by decide) ?_
          refine lv_ishr hx hb dX0_lay_112 ?_
          refine tp_as (y := nI ((w + 0) / 4096)) (pk_shrN (by omega) _ 12 (by decide)) ?_
          refine lv_ior hx hb dX0_lay_113 ?_
          refine wt_callv (va_runV (As := [.int (nI (a)), .int (224 ||| nI ((w + 0) / 4096))]) (rest := []) ⟨hx, hb, hml, hown, hts⟩ (m_sign l dC dI h0 h1 d _ _ 160 (nI (a)) (224 ||| nI ((w + 0) / 4096)) (by decide)) (cwV 2 hts (lw_V q131 q132 q133 q5 q134) rfl rfl rfl (by decide +kernel) ⟨Nat.le_of_ble_eq_true rfl, Nat.le_of_ble_eq_true rfl⟩) (wt_preU hK hP hD) rfl rfl hl.1 rfl (lv_room (Nat.le_of_ble_eq_true rfl)) dX0_lay_114 ⟨Nat.le_of_ble_eq_true rfl, Nat.le_of_ble_eq_true rfl⟩) hP hD hS hA (fun f1 n1 H locs hw hP hD hS => ?_)
          obtain ⟨hf1, hn1⟩ := hw
          have hn1 : n1 = nI 160 := hn1
          subst hn1
          have hf1 := hf1.trans (sg_at (by omega) (by decide))
          dsimp only at hf1
          subst hf1
          refine lv_aload_n hx hb dX0_lay_117 rfl (lv_at hl 1 rfl) ?_
          refine lv_iload_n hx hb dX0_lay_118 rfl (lv_at hl 2 rfl) ?_
          refine lv_iconst (v := nI 1) hx hb dX0_lay_119 (by decide) ?_
          refine lv_iadd hx hb dX0_lay_120 ?_
          refine tp_as (y := nI (a + 1)) (nI_add a 1) ?_
          refine lv_sipush (v := 128) hx hb dX0_lay_121 (by decide) ?_
          refine lv_iload_n hx hb dX0_lay_124 rfl (lv_at hl 0 rfl) ?_
          refine lv_bipush (v := 6) hx hb dX0_lay_125 (by decide) ?_
          refine lv_ishr hx hb dX0_lay_127 ?_
          refine tp_as (y := nI ((w + 0) / 64)) (pk_shrN (by omega) _ 6 (by decide)) ?_
          refine lv_bipush (v := 63) hx hb dX0_lay_128 (by decide) ?_
          refine lv_iand hx hb dX0_lay_130 ?_
          refine tp_as (y := nI (((w + 0) / 64) % 64)) (pk_andN (by omega) 6 (by decide)) ?_
          refine lv_ior hx hb dX0_lay_131 ?_
          refine wt_callv (va_runV (As := [.int (nI (a + 1)), .int (128 ||| nI ((w + 0) / 64 % 64))]) (rest := []) ⟨hx, hb, hml, hown, hts⟩ (m_sign l dC dI h0 h1 d _ _ 160 (nI (a + 1)) (128 ||| nI ((w + 0) / 64 % 64)) (by decide)) (cwV 2 hts (lw_V q131 q132 q133 q5 q134) rfl rfl rfl (by decide +kernel) ⟨Nat.le_of_ble_eq_true rfl, Nat.le_of_ble_eq_true rfl⟩) (wt_preU hK hP hD) rfl rfl hl.1 rfl (lv_room (Nat.le_of_ble_eq_true rfl)) dX0_lay_132 ⟨Nat.le_of_ble_eq_true rfl, Nat.le_of_ble_eq_true rfl⟩) hP hD hS hA (fun f1 n1 H locs hw hP hD hS => ?_)
          obtain ⟨hf1, hn1⟩ := hw
          have hn1 : n1 = nI 160 := hn1
          subst hn1
          have hf1 := hf1.trans (sg_at (by omega) (by decide))
          dsimp only at hf1
          subst hf1
          refine lv_aload_n hx hb dX0_lay_135 rfl (lv_at hl 1 rfl) ?_
          refine lv_iload_n hx hb dX0_lay_136 rfl (lv_at hl 2 rfl) ?_
          refine lv_iconst (v := nI 2) hx hb dX0_lay_137 (by decide) ?_
          refine lv_iadd hx hb dX0_lay_138 ?_
          refine tp_as (y := nI (a + 2)) (nI_add a 2) ?_
          refine lv_sipush (v := 128) hx hb dX0_lay_139 (by decide) ?_
          refine lv_iload_n hx hb dX0_lay_142 rfl (lv_at hl 0 rfl) ?_
          refine lv_bipush (v := 63) hx hb dX0_lay_143 (by decide) ?_
          refine lv_iand hx hb dX0_lay_145 ?_
          refine tp_as (y := nI ((w + 0) % 64)) (pk_andN (by omega) 6 (by decide)) ?_
          refine lv_ior hx hb dX0_lay_146 ?_
          refine wt_callv (va_runV (As := [.int (nI (a + 2)), .int (128 ||| nI ((w + 0) % 64))]) (rest := []) ⟨hx, hb, hml, hown, hts⟩ (m_sign l dC dI h0 h1 d _ _ 160 (nI (a + 2)) (128 ||| nI ((w + 0) % 64)) (by decide)) (cwV 2 hts (lw_V q131 q132 q133 q5 q134) rfl rfl rfl (by decide +kernel) ⟨Nat.le_of_ble_eq_true rfl, Nat.le_of_ble_eq_true rfl⟩) (wt_preU hK hP hD) rfl rfl hl.1 rfl (lv_room (Nat.le_of_ble_eq_true rfl)) dX0_lay_147 ⟨Nat.le_of_ble_eq_true rfl, Nat.le_of_ble_eq_true rfl⟩) hP hD hS hA (fun f1 n1 H locs hw hP hD hS => ?_)
          obtain ⟨hf1, hn1⟩ := hw
          have hn1 : n1 = nI 160 := hn1
          subst hn1
          have hf1 := hf1.trans (sg_at (by omega) (by decide))
          dsimp only at hf1
          subst hf1
          refine lv_iload_n hx hb dX0_lay_150 rfl (lv_at hl 2 rfl) ?_
          refine lv_iconst (v := nI 3) hx hb dX0_lay_151 (by decide) ?_
          refine lv_iadd hx hb dX0_lay_152 ?_
          refine tp_as (y := nI (a + 3)) (nI_add a 3) ?_
          exact W.iret (v := nI (a + 3)) hx hb hr (fun t ht hW => ⟨⟨nI (a + 3), (_, nI 160), rfl, ⟨3, lt_3 f a (w + 0) (by omega) (by omega) (Or.inl (by omega)), rfl, fun q hq => (pk_un (k := a + 2) (by omega)).trans ((pk_un (k := a + 1) (by omega)).trans (pk_un (k := a) (by omega))), rfl⟩, by rw [ht]; exact hP, va_K.moved hW.alike hK, hD⟩, hS.F ht⟩) hS.2.2 dX0_lay_153
        · have hlo : 55296 ≤ w := Nat.not_lt.mp (fun q => g3 (nI_lt q (by decide)))
          refine lv_sipush (v := nI 2048) hx hb dX0_lay_95 (by decide) ?_
          refine lv_goto (tgt := 102) hx hb dX0_lay_98 (by decide) ?_
          refine lv_iadd hx hb dX0_lay_102 ?_
          refine tp_as (y := nI (w + 2048)) (nI_add _ _) ?_
          refine lv_istore_n (lv' := [(3, .int (nI (w + 2048))), (0, .ref h0), (1, .int (nI a)), (2, .int (nI cn))]) hx hb dX0_lay_103 rfl hl (by decide) rfl (fun ls hl => ?_)
          refine lv_aload_n hx hb dX0_lay_104 rfl (lv_at hl 1 rfl) ?_
          refine lv_iload_n hx hb dX0_lay_105 rfl (lv_at hl 2 rfl) ?_
          refine lv_sipush (v := 224) hx hb dX0_lay_106 (by decide) ?_
          refine lv_iload_n hx hb dX0_lay_109 rfl (lv_at hl 0 rfl) ?_
          refine lv_bipush (v := 12) hx hb dX0_lay_110 (by decide) ?_
          refine lv_ishr hx hb dX0_lay_112 ?_
          refine tp_as (y := nI ((w + 2048) / 4096)) (pk_shrN (by omega) _ 12 (by decide)) ?_
          refine lv_ior hx hb dX0_lay_113 ?_
          refine wt_callv (va_runV (As := [.int (nI (a)), .int (224 ||| nI ((w + 2048) / 4096))]) (rest := []) ⟨hx, hb, hml, hown, hts⟩ (m_sign l dC dI h0 h1 d _ _ 160 (nI (a)) (224 ||| nI ((w + 2048) / 4096)) (by decide)) (cwV 2 hts (lw_V q131 q132 q133 q5 q134) rfl rfl rfl (by decide +kernel) ⟨Nat.le_of_ble_eq_true rfl, Nat.le_of_ble_eq_true rfl⟩) (wt_preU hK hP hD) rfl rfl hl.1 rfl (lv_room (Nat.le_of_ble_eq_true rfl)) dX0_lay_114 ⟨Nat.le_of_ble_eq_true rfl, Nat.le_of_ble_eq_true rfl⟩) hP hD hS hA (fun f1 n1 H locs hw hP hD hS => ?_)
          obtain ⟨hf1, hn1⟩ := hw
          have hn1 : n1 = nI 160 := hn1
          subst hn1
          have hf1 := hf1.trans (sg_at (by omega) (by decide))
          dsimp only at hf1
          subst hf1
          refine lv_aload_n hx hb dX0_lay_117 rfl (lv_at hl 1 rfl) ?_
          refine lv_iload_n hx hb dX0_lay_118 rfl (lv_at hl 2 rfl) ?_
          refine lv_iconst (v := nI 1) hx hb dX0_lay_119 (by decide) ?_
          refine lv_iadd hx hb dX0_lay_120 ?_
          refine tp_as (y := nI (a + 1)) (nI_add a 1) ?_
          refine lv_sipush (v := 128) hx hb dX0_lay_121 (by decide) ?_
          refine lv_iload_n hx hb dX0_lay_124 rfl (lv_at hl 0 rfl) ?_
          refine lv_bipush (v := 6) hx hb dX0_lay_125 (by decide) ?_
          refine lv_ishr hx hb dX0_lay_127 ?_
          refine tp_as (y := nI ((w + 2048) / 64)) (pk_shrN (by omega) _ 6 (by decide)) ?_
          refine lv_bipush (v := 63) hx hb dX0_lay_128 (by decide) ?_
          refine lv_iand hx hb dX0_lay_130 ?_
          refine tp_as (y := nI (((w + 2048) / 64) % 64)) (pk_andN (by omega) 6 (by decide)) ?_
          refine lv_ior hx hb dX0_lay_131 ?_
          refine wt_callv (va_runV (As := [.int (nI (a + 1)), .int (128 ||| nI ((w + 2048) / 64 % 64))]) (rest := []) ⟨hx, hb, hml, hown, hts⟩ (m_sign l dC dI h0 h1 d _ _ 160 (nI (a + 1)) (128 ||| nI ((w + 2048) / 64 % 64)) (by decide)) (cwV 2 hts (lw_V q131 q132 q133 q5 q134) rfl rfl rfl (by decide +kernel) ⟨Nat.le_of_ble_eq_true rfl, Nat.le_of_ble_eq_true rfl⟩) (wt_preU hK hP hD) rfl rfl hl.1 rfl (lv_room (Nat.le_of_ble_eq_true rfl)) dX0_lay_132 ⟨Nat.le_of_ble_eq_true rfl, Nat.le_of_ble_eq_true rfl⟩) hP hD hS hA (fun f1 n1 H locs hw hP hD hS => ?_)
          obtain ⟨hf1, hn1⟩ := hw
          have hn1 : n1 = nI 160 := hn1
          subst hn1
          have hf1 := hf1.trans (sg_at (by omega) (by decide))
          dsimp only at hf1
          subst hf1
          refine lv_aload_n hx hb dX0_lay_135 rfl (lv_at hl 1 rfl) ?_
          refine lv_iload_n hx hb dX0_lay_136 rfl (lv_at hl 2 rfl) ?_
          refine lv_iconst (v := nI 2) hx hb dX0_lay_137 (by decide) ?_
          refine lv_iadd hx hb dX0_lay_138 ?_
          refine tp_as (y := nI (a + 2)) (nI_add a 2) ?_
          refine lv_sipush (v := 128) hx hb dX0_lay_139 (by decide) ?_
          refine lv_iload_n hx hb dX0_lay_142 rfl (lv_at hl 0 rfl) ?_
          refine lv_bipush (v := 63) hx hb dX0_lay_143 (by decide) ?_
          refine lv_iand hx hb dX0_lay_145 ?_
          refine tp_as (y := nI ((w + 2048) % 64)) (pk_andN (by omega) 6 (by decide)) ?_
          refine lv_ior hx hb dX0_lay_146 ?_
          refine wt_callv (va_runV (As := [.int (nI (a + 2)), .int (128 ||| nI ((w + 2048) % 64))]) (rest := []) ⟨hx, hb, hml, hown, hts⟩ (m_sign l dC dI h0 h1 d _ _ 160 (nI (a + 2)) (128 ||| nI ((w + 2048) % 64)) (by decide)) (cwV 2 hts (lw_V q131 q132 q133 q5 q134) rfl rfl rfl (by decide +kernel) ⟨Nat.le_of_ble_eq_true rfl, Nat.le_of_ble_eq_true rfl⟩) (wt_preU hK hP hD) rfl rfl hl.1 rfl (lv_room (Nat.le_of_ble_eq_true rfl)) dX0_lay_147 ⟨Nat.le_of_ble_eq_true rfl, Nat.le_of_ble_eq_true rfl⟩) hP hD hS hA (fun f1 n1 H locs hw hP hD hS => ?_)
          obtain ⟨hf1, hn1⟩ := hw
          have hn1 : n1 = nI 160 := hn1
          subst hn1
          have hf1 := hf1.trans (sg_at (by omega) (by decide))
          dsimp only at hf1
          subst hf1
          refine lv_iload_n hx hb dX0_lay_150 rfl (lv_at hl 2 rfl) ?_
          refine lv_iconst (v := nI 3) hx hb dX0_lay_151 (by decide) ?_
          refine lv_iadd hx hb dX0_lay_152 ?_
          refine tp_as (y := nI (a + 3)) (nI_add a 3) ?_
          exact W.iret (v := nI (a + 3)) hx hb hr (fun t ht hW => ⟨⟨nI (a + 3), (_, nI 160), rfl, ⟨3, lt_3 f a (w + 2048) (by omega) (by omega) (Or.inr (by omega)), rfl, fun q hq => (pk_un (k := a + 2) (by omega)).trans ((pk_un (k := a + 1) (by omega)).trans (pk_un (k := a) (by omega))), rfl⟩, by rw [ht]; exact hP, va_K.moved hW.alike hK, hD⟩, hS.F ht⟩) hS.2.2 dX0_lay_153
    · refine lv_sipush (v := nI 128) hx hb dX0_lay_30 (by decide) ?_
      refine lv_iload_n hx hb dX0_lay_33 rfl (lv_at hl 0 rfl) ?_
      refine lv_sipush (v := nI 1920) hx hb dX0_lay_34 (by decide) ?_
      refine lv_irem hx hb dX0_lay_37 (nI_ne0 (by decide) (by decide)) ?_
      refine tp_as (y := nI (cn / 4 % 1920)) (pk_rem (by omega) (by decide) (by decide)) ?_
      refine lv_iadd hx hb dX0_lay_38 ?_
      refine tp_as (y := nI (128 + cn / 4 % 1920)) (nI_add _ _) ?_
      obtain ⟨w, hw⟩ : ∃ w, w = 128 + cn / 4 % 1920 := ⟨_, rfl⟩
      rw [← hw]
      have hw1 : 128 ≤ w := by omega
      have hw2 : w < 2048 := by omega
      refine lv_istore_n (lv' := [(3, .int (nI w)), (0, .ref h0), (1, .int (nI a)), (2, .int (nI cn))]) hx hb dX0_lay_39 rfl hl (by decide) rfl (fun ls hl => ?_)
      refine lv_aload_n hx hb dX0_lay_40 rfl (lv_at hl 1 rfl) ?_
      refine lv_iload_n hx hb dX0_lay_41 rfl (lv_at hl 2 rfl) ?_
      refine lv_sipush (v := 192) hx hb dX0_lay_42 (by decide) ?_
      refine lv_iload_n hx hb dX0_lay_45 rfl (lv_at hl 0 rfl) ?_
      refine lv_bipush (v := 6) hx hb dX0_lay_46 (by decide) ?_
      refine lv_ishr hx hb dX0_lay_48 ?_
      refine tp_as (y := nI (w / 64)) (pk_shrN (by omega) _ 6 (by decide)) ?_
      refine lv_ior hx hb dX0_lay_49 ?_
      refine wt_callv (va_runV (As := [.int (nI (a)), .int (192 ||| nI (w / 64))]) (rest := []) ⟨hx, hb, hml, hown, hts⟩ (m_sign l dC dI h0 h1 d _ _ 160 (nI (a)) (192 ||| nI (w / 64)) (by decide)) (cwV 2 hts (lw_V q131 q132 q133 q5 q134) rfl rfl rfl (by decide +kernel) ⟨Nat.le_of_ble_eq_true rfl, Nat.le_of_ble_eq_true rfl⟩) (wt_preU hK hP hD) rfl rfl hl.1 rfl (lv_room (Nat.le_of_ble_eq_true rfl)) dX0_lay_50 ⟨Nat.le_of_ble_eq_true rfl, Nat.le_of_ble_eq_true rfl⟩) hP hD hS hA (fun f1 n1 H locs hw hP hD hS => ?_)
      obtain ⟨hf1, hn1⟩ := hw
      have hn1 : n1 = nI 160 := hn1
      subst hn1
      have hf1 := hf1.trans (sg_at (by omega) (by decide))
      dsimp only at hf1
      subst hf1
      refine lv_aload_n hx hb dX0_lay_53 rfl (lv_at hl 1 rfl) ?_
      refine lv_iload_n hx hb dX0_lay_54 rfl (lv_at hl 2 rfl) ?_
      refine lv_iconst (v := nI 1) hx hb dX0_lay_55 (by decide) ?_
      refine lv_iadd hx hb dX0_lay_56 ?_
      refine tp_as (y := nI (a + 1)) (nI_add a 1) ?_
      refine lv_sipush (v := 128) hx hb dX0_lay_57 (by decide) ?_
      refine lv_iload_n hx hb dX0_lay_60 rfl (lv_at hl 0 rfl) ?_
      refine lv_bipush (v := 63) hx hb dX0_lay_61 (by decide) ?_
      refine lv_iand hx hb dX0_lay_63 ?_
      refine tp_as (y := nI (w % 64)) (pk_andN (by omega) 6 (by decide)) ?_
      refine lv_ior hx hb dX0_lay_64 ?_
      refine wt_callv (va_runV (As := [.int (nI (a + 1)), .int (128 ||| nI (w % 64))]) (rest := []) ⟨hx, hb, hml, hown, hts⟩ (m_sign l dC dI h0 h1 d _ _ 160 (nI (a + 1)) (128 ||| nI (w % 64)) (by decide)) (cwV 2 hts (lw_V q131 q132 q133 q5 q134) rfl rfl rfl (by decide +kernel) ⟨Nat.le_of_ble_eq_true rfl, Nat.le_of_ble_eq_true rfl⟩) (wt_preU hK hP hD) rfl rfl hl.1 rfl (lv_room (Nat.le_of_ble_eq_true rfl)) dX0_lay_65 ⟨Nat.le_of_ble_eq_true rfl, Nat.le_of_ble_eq_true rfl⟩) hP hD hS hA (fun f1 n1 H locs hw hP hD hS => ?_)
      obtain ⟨hf1, hn1⟩ := hw
      have hn1 : n1 = nI 160 := hn1
      subst hn1
      have hf1 := hf1.trans (sg_at (by omega) (by decide))
      dsimp only at hf1
      subst hf1
      refine lv_iload_n hx hb dX0_lay_68 rfl (lv_at hl 2 rfl) ?_
      refine lv_iconst (v := nI 2) hx hb dX0_lay_69 (by decide) ?_
      refine lv_iadd hx hb dX0_lay_70 ?_
      refine tp_as (y := nI (a + 2)) (nI_add a 2) ?_
      exact W.iret (v := nI (a + 2)) hx hb hr (fun t ht hW => ⟨⟨nI (a + 2), (_, nI 160), rfl, ⟨2, lt_2 f a w hw1 hw2, rfl, fun q hq => (pk_un (k := a + 1) (by omega)).trans (pk_un (k := a) (by omega)), rfl⟩, by rw [ht]; exact hP, va_K.moved hW.alike hK, hD⟩, hS.F ht⟩) hS.2.2 dX0_lay_71
  · refine lv_aload_n hx hb dX0_lay_10 rfl (lv_at hl 1 rfl) ?_
    refine lv_iload_n hx hb dX0_lay_11 rfl (lv_at hl 2 rfl) ?_
    refine lv_iload_n hx hb dX0_lay_12 rfl (lv_at hl 0 rfl) ?_
    refine lv_bipush (v := 127) hx hb dX0_lay_13 (by decide) ?_
    refine lv_iand hx hb dX0_lay_15 ?_
    refine tp_as (y := nI (cn / 4 % 128)) (pk_andN (by omega) 7 (by decide)) ?_
    refine wt_callv (va_runV (As := [.int (nI (a)), .int (nI (cn / 4 % 128))]) (rest := []) ⟨hx, hb, hml, hown, hts⟩ (m_sign l dC dI h0 h1 d _ _ 160 (nI (a)) (nI (cn / 4 % 128)) (by decide)) (cwV 2 hts (lw_V q131 q132 q133 q5 q134) rfl rfl rfl (by decide +kernel) ⟨Nat.le_of_ble_eq_true rfl, Nat.le_of_ble_eq_true rfl⟩) (wt_preU hK hP hD) rfl rfl hl.1 rfl (lv_room (Nat.le_of_ble_eq_true rfl)) dX0_lay_16 ⟨Nat.le_of_ble_eq_true rfl, Nat.le_of_ble_eq_true rfl⟩) hP hD hS hA (fun f1 n1 H locs hw hP hD hS => ?_)
    obtain ⟨hf1, hn1⟩ := hw
    have hn1 : n1 = nI 160 := hn1
    subst hn1
    have hf1 := hf1.trans (sg_at (by omega) (by decide))
    dsimp only at hf1
    subst hf1
    refine lv_iload_n hx hb dX0_lay_19 rfl (lv_at hl 2 rfl) ?_
    refine lv_iconst (v := nI 1) hx hb dX0_lay_20 (by decide) ?_
    refine lv_iadd hx hb dX0_lay_21 ?_
    refine tp_as (y := nI (a + 1)) (nI_add a 1) ?_
    exact W.iret (v := nI (a + 1)) hx hb hr (fun t ht hW => ⟨⟨nI (a + 1), (_, nI 160), rfl, ⟨1, lt_1 f a _ (Nat.mod_lt _ (by decide)), rfl, fun q hq => pk_un (k := a) (by omega), rfl⟩, by rw [ht]; exact hP, va_K.moved hW.alike hK, hD⟩, hS.F ht⟩) hS.2.2 dX0_lay_22
end
section
/-! THE CLAIM OUT OF ONE WALK OF THE LAW'S BODY. Your part is whole_start (and what it stands on); all else here is the same for every law, but numbers. -/
def R_law : String := "WireTextLaw"
def lw_P (b : Addr) (xs : List Int32) (args : Array Value) (s : State) : Prop := args = #[.ref b] ∧ s.IntsAt b xs ∧ xs.length ≤ 40 ∧ (Jvm.Cond.and given_1 narrow_1).before args s = true
def lw_Q (_ : Array Value) (s : State) (o : Outcome) (t : State) : Prop := o = .returned (some (.int 1)) ∧ Framed s o t [] 600000 7290000
def lw_Z (below : List Frame) (a : Array Value) (s : State) : State → Prop := fun t => ∃ o, t.status = .running ∧ Ended t below o ∧ lw_Q a s o t
/-- the law's own end, with 1 on the stack, nothing written that was there before, its room as the claim has it -/
theorem lw_ret {p : Program} {l : Launch} {e : Env} {s : State} {m : MethodId} {below : List Frame} {meth : Method} {c : Code} {b : Nat} (hx : p.tables.exec = Jvm.exec) (hb : c.code = code) (hr : meth.sig.returnType = ret) (hlocks : meth.locks = false) {pc : Nat} {H : Heap} {ls : Array Slot} (hdg : decode code pc = .ok (.ireturn, 1)) : W p l e room_1 s m #[Value.ref b] below meth c H [] 600000 7290000 (lw_Z below #[Value.ref b] s) (F0 m pc ls [.int 1]) := by
  intro T hT X
  obtain ⟨fs, hret, hrun, hended, hW, hframe⟩ := X.leave (v := some (.int 1)) (hlocks := hlocks) (fun h => by rw [hr] at h; cases h)
  have hmeth' : T.vm.method? m = some meth := X.method'
  refine ⟨T.setFrames fs, ?_, .returned (some (.int 1)), hrun, hended, rfl, ⟨_, rfl⟩, hW, hframe⟩
  jvm_step X.here [X.here.top, hx, hb, hdg, hmeth', hr, ret, narrow_b1]
  (try refine ⟨rfl, ?_⟩); (try refine ⟨rfl, ?_⟩)
  first | (intro acts; rw [hret _ acts rfl rfl rfl]) | rw [hret _ _ rfl rfl rfl]
  exact Steps.refl _
/-- what holds at the law's entry: the machine, the code, the tables' words (any of lw_tbl by 'hts w (by decide +kernel)'), the script of L ints xs at the cell b, what the Statement gives of the start (any of its parts by flat_of_before) -/
def lw_At (p : Program) (s : State) (m : MethodId) (meth : Method) (c : Code) (b L : Nat) (xs : Nat → Int32) : Prop :=
  p.tables.exec = Jvm.exec ∧ c.code = code ∧ meth.sig.returnType = ret ∧ c.maxLocals = 5 ∧ s.vm.findClass R_law = some m.cls ∧ (∀ w ∈ lw_tbl, w.before #[Value.ref b] s = true) ∧ va_X b L xs s s.heap ∧ b < s.heap.size ∧ meth.locks = false ∧ (Jvm.Cond.and given_1 narrow_1).before #[Value.ref b] s = true
end
section
theorem cl_pre {s : State} {H : Heap} {locs : List Loc} {A : Nat → Prop} {b L : Nat} {xs : Nat → Int32} {As : List Value} (hX : va_X b L xs s s.heap) (hS : va_S A s.heap H locs) (hbl : b < s.heap.size) (hbA : ¬ A b) : PreS s H (va_Pc As (fun U => va_X b L xs U U.heap)) As :=
  ⟨fun a U g mk q => ⟨q.1, va_X.moved (u := U) (U := U.calling g mk a) (Vm.Alike.refl U.vm) q.2⟩, fun U hU hW => ⟨rfl, by show va_X b L xs U U.heap; rw [hU]; exact (hX.kept (hS.2.1 b hbl hbA)).moved hW.alike⟩⟩
set_option maxHeartbeats 4000000 in
set_option maxRecDepth 100000 in
/-- the law from 118 on: the text is cut at a drawn place; never two of three -/
theorem law_cut {p : Program} {l : Launch} {e : Env} {s : State} {m : MethodId} {below : List Frame} {meth : Method} {c : Code} {dC : Nat → ClassId} {dI : Nat → Nat → Nat} {b L : Nat} {xs : Nat → Int32} {h0 h1 : Nat} {d : ClassId} (hL : L ≤ 40) (C0 : lw_At p s m meth c b L xs) (hK : va_K (dC, dI) vwCl [(d, .byte)] s) (n : Nat) (hn : n ≤ 160) (f : Nat → Int32) (H : Heap) (locs : List Loc) (hP : va_P (dC, dI) vwCl (wt h0 h1 d f (nI n)) H) (hD : va_D (fun q : Nat => s.heap.size ≤ q) (wt h0 h1 d f (nI n))) (hS : va_S (fun q : Nat => s.heap.size ≤ q) s.heap H locs) (ls : Array Slot) (hl : lv_has ls 5 [(0, .ref b), (1, .ref h0), (2, .int (nI n))]) : W p l e room_1 s m #[Value.ref b] below meth c H locs 2 4098 (lw_Z below #[Value.ref b] s) (F0 m 118 ls []) := by
  obtain ⟨hx, hb, hr, hml, hown, htb, hX, hbl, hlocks, hgv⟩ := id C0
  have hts : ∀ w ∈ lw_all, w.before #[Value.ref b] s = true := fun w h => htb w (lw_all_tbl h)
  have hA : ∀ q : Nat, s.heap.size ≤ q → (fun q : Nat => s.heap.size ≤ q) q := fun _ h => h
  have hbA : ¬ (fun q : Nat => s.heap.size ≤ q) b := Nat.not_le.mpr hbl
  refine lv_aload_n hx hb dL_law_118 rfl (lv_at hl 0 rfl) ?_
  refine lv_iconst (v := nI 2) hx hb dL_law_119 (by decide) ?_
  refine rd_call (W.runS (As := [.ref b, .int (nI 2)]) (rest := []) ⟨hx, hb, hml, hown, hts⟩ (m_cell l b L xs 2 hL (by decide)) (va_cwS 2 hts (lw_S q135 q136 q4 q137) rfl rfl rfl (by decide +kernel) ⟨Nat.le_of_ble_eq_true rfl, Nat.le_of_ble_eq_true rfl⟩) (cl_pre hX hS hbl hbA) rfl rfl hl.1 rfl (lv_room (Nat.le_of_ble_eq_true rfl)) dL_law_120 ⟨Nat.le_of_ble_eq_true rfl, Nat.le_of_ble_eq_true rfl⟩) ?_
  refine lv_ldc hx hb hown (hts _ q145) dL_law_123 ?_
  refine lv_iand hx hb dL_law_125 ?_
  refine tp_as (y := nI ((cl_v L xs 2).toBitVec.toNat % 2 ^ 31)) (pk_and _ 31 (by decide +kernel)) ?_
  refine lv_iload_n hx hb dL_law_126 rfl (lv_at hl 2 rfl) ?_
  refine lv_iconst (v := 1) hx hb dL_law_127 (by decide) ?_
  refine lv_iadd hx hb dL_law_128 ?_
  refine tp_as (y := nI (n + 1)) (nI_1 n) ?_
  refine lv_irem hx hb dL_law_129 (nI_ne0 (by omega) (by omega)) ?_
  refine tp_as (y := nI ((cl_v L xs 2).toBitVec.toNat % 2 ^ 31 % (n + 1))) (pk_rem (Nat.mod_lt _ (by decide)) (by omega) (by omega)) ?_
  have hkn := Nat.mod_lt ((cl_v L xs 2).toBitVec.toNat % 2 ^ 31) (show n + 1 > 0 by omega)
  generalize (cl_v L xs 2).toBitVec.toNat % 2 ^ 31 % (n + 1) = z at hkn ⊢
  refine lv_istore_n (lv' := [(3, .int (nI z)), (0, .ref b), (1, .ref h0), (2, .int (nI n))]) hx hb dL_law_130 rfl hl (by decide) rfl (fun ls hl => ?_)
  refine lv_aload_n hx hb dL_law_131 rfl (lv_at hl 2 rfl) ?_
  refine lv_iconst (v := nI 0) hx hb dL_law_132 (by decide) ?_
  refine lv_iload_n hx hb dL_law_133 rfl (lv_at hl 3 rfl) ?_
  refine rd_call (W.runV (As := [.int (nI (0)), .int (nI (n))]) (rest := []) ⟨hx, hb, hml, hown, hts⟩ (m_fair l dC dI h0 h1 d f n (0) (n) (by omega) (by omega)) (cwV 2 hts (lw_V q49 q50 q51 q5 q52) rfl rfl rfl (by decide +kernel) ⟨Nat.le_of_ble_eq_true rfl, Nat.le_of_ble_eq_true rfl⟩) (wt_preR hK hP) rfl rfl hl.1 rfl (lv_room (Nat.le_of_ble_eq_true rfl)) dL_law_134 ⟨Nat.le_of_ble_eq_true rfl, Nat.le_of_ble_eq_true rfl⟩) ?_
  refine tp_as (y := u8_r f 0 n) (by rw [Nat.zero_add]) ?_
  have K145 : W p l e room_1 s m #[Value.ref b] below meth c H locs 2 4098 (lw_Z below #[Value.ref b] s) (F0 m 145 ls [.int (u8_r f 0 n)]) := by
    refine lv_aload_n hx hb dL_law_145 rfl (lv_at hl 2 rfl) ?_
    refine lv_iconst (v := nI 0) hx hb dL_law_146 (by decide) ?_
    refine lv_iload_n hx hb dL_law_147 rfl (lv_at hl 0 rfl) ?_
    refine rd_call (W.runV (As := [.int (nI (0)), .int (nI (z))]) (rest := [.int (u8_r f 0 n)]) ⟨hx, hb, hml, hown, hts⟩ (m_fair l dC dI h0 h1 d f n (0) (z) (by omega) (by omega)) (cwV 2 hts (lw_V q49 q50 q51 q5 q52) rfl rfl rfl (by decide +kernel) ⟨Nat.le_of_ble_eq_true rfl, Nat.le_of_ble_eq_true rfl⟩) (wt_preR hK hP) rfl rfl hl.1 rfl (lv_room (Nat.le_of_ble_eq_true rfl)) dL_law_148 ⟨Nat.le_of_ble_eq_true rfl, Nat.le_of_ble_eq_true rfl⟩) ?_
    refine tp_as (y := u8_r f 0 z) (by rw [Nat.zero_add]) ?_
    have K159 : W p l e room_1 s m #[Value.ref b] below meth c H locs 2 4098 (lw_Z below #[Value.ref b] s) (F0 m 159 ls [.int (u8_r f 0 z), .int (u8_r f 0 n)]) := by
      refine lv_iadd hx hb dL_law_159 ?_
      refine lv_aload_n hx hb dL_law_160 rfl (lv_at hl 2 rfl) ?_
      refine lv_iload_n hx hb dL_law_161 rfl (lv_at hl 0 rfl) ?_
      refine lv_iload_n hx hb dL_law_162 rfl (lv_at hl 3 rfl) ?_
      refine lv_iload_n hx hb dL_law_163 rfl (lv_at hl 0 rfl) ?_
      refine lv_isub hx hb dL_law_164 ?_
      refine tp_as (y := nI (n - z)) (pk_sub (by omega)) ?_
      refine rd_call (W.runV (As := [.int (nI (z)), .int (nI (n - z))]) (rest := [.int (u8_r f 0 n + u8_r f 0 z)]) ⟨hx, hb, hml, hown, hts⟩ (m_fair l dC dI h0 h1 d f n (z) (n - z) (by omega) (by omega)) (cwV 2 hts (lw_V q49 q50 q51 q5 q52) rfl rfl rfl (by decide +kernel) ⟨Nat.le_of_ble_eq_true rfl, Nat.le_of_ble_eq_true rfl⟩) (wt_preR hK hP) rfl rfl hl.1 rfl (lv_room (Nat.le_of_ble_eq_true rfl)) dL_law_165 ⟨Nat.le_of_ble_eq_true rfl, Nat.le_of_ble_eq_true rfl⟩) ?_
      refine tp_as (y := u8_r f z n) (by rw [show z + (n - z) = n by omega]) ?_
      have K176 : W p l e room_1 s m #[Value.ref b] below meth c H locs 2 4098 (lw_Z below #[Value.ref b] s) (F0 m 176 ls [.int (u8_r f z n), .int (u8_r f 0 n + u8_r f 0 z)]) := by
        refine lv_iadd hx hb dL_law_176 ?_
        refine lv_istore (lv' := [(4, .int (u8_r f 0 n + u8_r f 0 z + u8_r f z n)), (3, .int (nI z)), (0, .ref b), (1, .ref h0), (2, .int (nI n))]) hx hb dL_law_177 hl (by decide) rfl (fun ls hl => ?_)
        refine lv_iload hx hb dL_law_179 (lv_at hl 0 rfl) ?_
        refine lv_iconst (v := 2) hx hb dL_law_181 (by decide) ?_
        refine lv_icmp_eq (tgt := 189) hx hb dL_law_182 (by decide) (fun g => ?_) (fun g => ?_)
        · exact absurd g (u8_sum f (by omega))
        · refine lv_iconst (v := 1) hx hb dL_law_185 (by decide) ?_
          refine lv_goto (tgt := 190) hx hb dL_law_186 (by decide) ?_
          refine va_forget (fun q hq => hS.2.2 q hq) ?_
          refine W.widen (k := 600000) (n := 7290000) (Nat.le_of_ble_eq_true rfl) (Nat.le_of_ble_eq_true rfl) ?_
          exact lw_ret hx hb hr hlocks dL_law_190
      refine lv_if_eq (tgt := 175) hx hb dL_law_168 (by decide) (fun g => ?_) (fun g => ?_)
      · refine lv_iconst (v := 0) hx hb dL_law_175 (by decide) ?_
        refine tp_as (y := u8_r f z n) (g.symm) ?_
        exact K176
      · refine lv_iconst (v := 1) hx hb dL_law_171 (by decide) ?_
        refine tp_as (y := u8_r f z n) (((u8_rc f z n).resolve_right (fun q => g q.1)).1.symm) ?_
        refine lv_goto (tgt := 176) hx hb dL_law_172 (by decide) ?_
        exact K176
    refine lv_if_eq (tgt := 158) hx hb dL_law_151 (by decide) (fun g => ?_) (fun g => ?_)
    · refine lv_iconst (v := 0) hx hb dL_law_158 (by decide) ?_
      refine tp_as (y := u8_r f 0 z) (g.symm) ?_
      exact K159
    · refine lv_iconst (v := 1) hx hb dL_law_154 (by decide) ?_
      refine tp_as (y := u8_r f 0 z) (((u8_rc f 0 z).resolve_right (fun q => g q.1)).1.symm) ?_
      refine lv_goto (tgt := 159) hx hb dL_law_155 (by decide) ?_
      exact K159
  refine lv_if_eq (tgt := 144) hx hb dL_law_137 (by decide) (fun g => ?_) (fun g => ?_)
  · refine lv_iconst (v := 0) hx hb dL_law_144 (by decide) ?_
    refine tp_as (y := u8_r f 0 n) (g.symm) ?_
    exact K145
  · refine lv_iconst (v := 1) hx hb dL_law_140 (by decide) ?_
    refine tp_as (y := u8_r f 0 n) (((u8_rc f 0 n).resolve_right (fun q => g q.1)).1.symm) ?_
    refine lv_goto (tgt := 145) hx hb dL_law_141 (by decide) ?_
    exact K145
set_option maxHeartbeats 4000000 in
set_option maxRecDepth 100000 in
/-- the law from 67 on: n bytes of whole letters are written -/
theorem law_mid {p : Program} {l : Launch} {e : Env} {s : State} {m : MethodId} {below : List Frame} {meth : Method} {c : Code} {dC : Nat → ClassId} {dI : Nat → Nat → Nat} {b L : Nat} {xs : Nat → Int32} {h0 h1 : Nat} {d : ClassId} (hL : L ≤ 40) (C0 : lw_At p s m meth c b L xs) (hK : va_K (dC, dI) vwCl [(d, .byte)] s) (n : Nat) (hn : n ≤ 160) (f : Nat → Int32) (hW : u8_W f 0 n) (H : Heap) (locs : List Loc) (hP : va_P (dC, dI) vwCl (wt h0 h1 d f (nI 160)) H) (hD : va_D (fun q : Nat => s.heap.size ≤ q) (wt h0 h1 d f (nI 160))) (hS : va_S (fun q : Nat => s.heap.size ≤ q) s.heap H locs) (ls : Array Slot) (hl : lv_has ls 5 [(0, .ref b), (1, .ref h0), (2, .int (nI n))]) : W p l e room_1 s m #[Value.ref b] below meth c H locs 2 4098 (lw_Z below #[Value.ref b] s) (F0 m 67 ls []) := by
  obtain ⟨hx, hb, hr, hml, hown, htb, hX, hbl, hlocks, hgv⟩ := id C0
  have hts : ∀ w ∈ lw_all, w.before #[Value.ref b] s = true := fun w h => htb w (lw_all_tbl h)
  have hA : ∀ q : Nat, s.heap.size ≤ q → (fun q : Nat => s.heap.size ≤ q) q := fun _ h => h
  have hbA : ¬ (fun q : Nat => s.heap.size ≤ q) b := Nat.not_le.mpr hbl
  refine lv_aload_n hx hb dL_law_67 rfl (lv_at hl 1 rfl) ?_
  refine lv_iload_n hx hb dL_law_68 rfl (lv_at hl 2 rfl) ?_
  refine wt_callv (va_runV (As := [.int (nI n)]) (rest := []) ⟨hx, hb, hml, hown, hts⟩ (m_trim l dC dI h0 h1 d f _ 160 n (by decide) hn) (cwV 1 hts (lw_V q36 q37 q38 q5 q39) rfl rfl rfl (by decide +kernel) ⟨Nat.le_of_ble_eq_true rfl, Nat.le_of_ble_eq_true rfl⟩) (wt_preU hK hP hD) rfl rfl hl.1 rfl (lv_room (Nat.le_of_ble_eq_true rfl)) dL_law_69 ⟨Nat.le_of_ble_eq_true rfl, Nat.le_of_ble_eq_true rfl⟩) hP hD hS hA (fun f1 n1 H locs hw hP hD hS => ?_)
  obtain ⟨hf1, hn1⟩ := hw
  have hf1 : f1 = f := hf1
  have hn1 : n1 = nI n := hn1
  subst hf1 hn1
  refine lv_aload_n hx hb dL_law_72 rfl (lv_at hl 1 rfl) ?_
  refine rd_call (W.runV (As := []) (rest := []) ⟨hx, hb, hml, hown, hts⟩ (m_size l dC dI h0 h1 d f1 (nI n)) (cwV 0 hts (lw_V q45 q46 q47 q5 q48) rfl rfl rfl (by decide +kernel) ⟨Nat.le_of_ble_eq_true rfl, Nat.le_of_ble_eq_true rfl⟩) (wt_preR hK hP) rfl rfl hl.1 rfl (lv_room (Nat.le_of_ble_eq_true rfl)) dL_law_73 ⟨Nat.le_of_ble_eq_true rfl, Nat.le_of_ble_eq_true rfl⟩) ?_
  refine lv_iload_n hx hb dL_law_76 rfl (lv_at hl 2 rfl) ?_
  refine lv_icmp_ne (tgt := 89) hx hb dL_law_77 (by decide) (fun g => ?_) (fun g => ?_)
  · exact absurd rfl g
  · refine lv_aload_n hx hb dL_law_80 rfl (lv_at hl 1 rfl) ?_
    refine lv_iconst (v := nI 0) hx hb dL_law_81 (by decide) ?_
    refine lv_iload_n hx hb dL_law_82 rfl (lv_at hl 2 rfl) ?_
    refine rd_call (W.runV (As := [.int (nI 0), .int (nI n)]) (rest := []) ⟨hx, hb, hml, hown, hts⟩ (m_fair l dC dI h0 h1 d f1 n 0 n (by omega) (by omega)) (cwV 2 hts (lw_V q49 q50 q51 q5 q52) rfl rfl rfl (by decide +kernel) ⟨Nat.le_of_ble_eq_true rfl, Nat.le_of_ble_eq_true rfl⟩) (wt_preR hK hP) rfl rfl hl.1 rfl (lv_room (Nat.le_of_ble_eq_true rfl)) dL_law_83 ⟨Nat.le_of_ble_eq_true rfl, Nat.le_of_ble_eq_true rfl⟩) ?_
    refine tp_as (y := 1) (by rw [Nat.zero_add, u8_r1 hW]) ?_
    refine lv_if_ne (tgt := 91) hx hb dL_law_86 (by decide) (fun g1 => ?_) (fun g1 => ?_)
    · refine lv_aload_n hx hb dL_law_91 rfl (lv_at hl 0 rfl) ?_
      refine lv_iconst (v := nI 0) hx hb dL_law_92 (by decide) ?_
      refine rd_call (W.runS (As := [.ref b, .int (nI 0)]) (rest := []) ⟨hx, hb, hml, hown, hts⟩ (m_cell l b L xs 0 hL (by decide)) (va_cwS 2 hts (lw_S q135 q136 q4 q137) rfl rfl rfl (by decide +kernel) ⟨Nat.le_of_ble_eq_true rfl, Nat.le_of_ble_eq_true rfl⟩) (cl_pre hX hS hbl hbA) rfl rfl hl.1 rfl (lv_room (Nat.le_of_ble_eq_true rfl)) dL_law_93 ⟨Nat.le_of_ble_eq_true rfl, Nat.le_of_ble_eq_true rfl⟩) ?_
      refine lv_iconst (v := 1) hx hb dL_law_96 (by decide) ?_
      refine lv_iand hx hb dL_law_97 ?_
      refine lv_iconst (v := 1) hx hb dL_law_98 (by decide) ?_
      refine lv_icmp_ne (tgt := 118) hx hb dL_law_99 (by decide) (fun g2 => ?_) (fun g2 => ?_)
      · exact law_cut hL C0 hK n hn f1 H locs hP hD hS ls hl
      · refine lv_aload_n hx hb dL_law_102 rfl (lv_at hl 1 rfl) ?_
        refine lv_aload_n hx hb dL_law_103 rfl (lv_at hl 0 rfl) ?_
        refine lv_iconst (v := nI 0) hx hb dL_law_104 (by decide) ?_
        refine rd_call (W.runS (As := [.ref b, .int (nI 0)]) (rest := [.ref h0]) ⟨hx, hb, hml, hown, hts⟩ (m_cell l b L xs 0 hL (by decide)) (va_cwS 2 hts (lw_S q135 q136 q4 q137) rfl rfl rfl (by decide +kernel) ⟨Nat.le_of_ble_eq_true rfl, Nat.le_of_ble_eq_true rfl⟩) (cl_pre hX hS hbl hbA) rfl rfl hl.1 rfl (lv_room (Nat.le_of_ble_eq_true rfl)) dL_law_105 ⟨Nat.le_of_ble_eq_true rfl, Nat.le_of_ble_eq_true rfl⟩) ?_
        refine lv_iconst (v := 1) hx hb dL_law_108 (by decide) ?_
        refine lv_ishr hx hb dL_law_109 ?_
        refine lv_aload_n hx hb dL_law_110 rfl (lv_at hl 0 rfl) ?_
        refine lv_iconst (v := nI 1) hx hb dL_law_111 (by decide) ?_
        refine rd_call (W.runS (As := [.ref b, .int (nI 1)]) (rest := [.int (cl_v L xs 0 >>> ((1 : Int32) &&& 31)), .ref h0]) ⟨hx, hb, hml, hown, hts⟩ (m_cell l b L xs 1 hL (by decide)) (va_cwS 2 hts (lw_S q135 q136 q4 q137) rfl rfl rfl (by decide +kernel) ⟨Nat.le_of_ble_eq_true rfl, Nat.le_of_ble_eq_true rfl⟩) (cl_pre hX hS hbl hbA) rfl rfl hl.1 rfl (lv_room (Nat.le_of_ble_eq_true rfl)) dL_law_112 ⟨Nat.le_of_ble_eq_true rfl, Nat.le_of_ble_eq_true rfl⟩) ?_
        refine wt_callv (va_runV (As := [.int (cl_v L xs 0 >>> ((1 : Int32) &&& 31)), .int (cl_v L xs 1)]) (rest := []) ⟨hx, hb, hml, hown, hts⟩ (m_sign l dC dI h0 h1 d f1 _ n (cl_v L xs 0 >>> ((1 : Int32) &&& 31)) (cl_v L xs 1) (by omega)) (cwV 2 hts (lw_V q131 q132 q133 q5 q134) rfl rfl rfl (by decide +kernel) ⟨Nat.le_of_ble_eq_true rfl, Nat.le_of_ble_eq_true rfl⟩) (wt_preU hK hP hD) rfl rfl hl.1 rfl (lv_room (Nat.le_of_ble_eq_true rfl)) dL_law_115 ⟨Nat.le_of_ble_eq_true rfl, Nat.le_of_ble_eq_true rfl⟩) hP hD hS hA (fun f2 n2 H locs hw hP hD hS => ?_)
        obtain ⟨-, hn2⟩ := hw
        have hn2 : n2 = nI n := hn2
        subst hn2
        exact law_cut hL C0 hK n hn f2 H locs hP hD hS ls hl
    · exact absurd g1 (by decide)
set_option maxHeartbeats 4000000 in
set_option maxRecDepth 100000 in
/-- the law's second loop: letter by letter -/
theorem law_lays {p : Program} {l : Launch} {e : Env} {s : State} {m : MethodId} {below : List Frame} {meth : Method} {c : Code} {dC : Nat → ClassId} {dI : Nat → Nat → Nat} {b L : Nat} {xs : Nat → Int32} {h0 h1 : Nat} {d : ClassId} (hL : L ≤ 40) (C0 : lw_At p s m meth c b L xs) (hK : va_K (dC, dI) vwCl [(d, .byte)] s) :
    ∀ (t i n : Nat), i ≤ 40 → 41 ≤ i + t → n ≤ 160 → ∀ (f : Nat → Int32), u8_W f 0 n → ∀ (H : Heap) (locs : List Loc), va_P (dC, dI) vwCl (wt h0 h1 d f (nI 160)) H → va_D (fun q : Nat => s.heap.size ≤ q) (wt h0 h1 d f (nI 160)) → va_S (fun q : Nat => s.heap.size ≤ q) s.heap H locs → ∀ (ls : Array Slot), lv_has ls 5 [(0, .ref b), (1, .ref h0), (2, .int (nI n)), (3, .int (nI i))] → W p l e room_1 s m #[Value.ref b] below meth c H locs 2 4098 (lw_Z below #[Value.ref b] s) (F0 m 39 ls []) := by
  obtain ⟨hx, hb, hr, hml, hown, htb, hX, hbl, hlocks, hgv⟩ := id C0
  have hts : ∀ w ∈ lw_all, w.before #[Value.ref b] s = true := fun w h => htb w (lw_all_tbl h)
  have hA : ∀ q : Nat, s.heap.size ≤ q → (fun q : Nat => s.heap.size ≤ q) q := fun _ h => h
  have hbA : ¬ (fun q : Nat => s.heap.size ≤ q) b := Nat.not_le.mpr hbl
  intro t
  induction t with
  | zero =>
    intro i n h1 h2
    exact absurd h2 (by omega)
  | succ t ih =>
    intro i n hi hit hn f hW H locs hP hD hS ls hl
    refine lv_iload_n hx hb dL_law_39 rfl (lv_at hl 3 rfl) ?_
    refine lv_aload_n hx hb dL_law_40 rfl (lv_at hl 0 rfl) ?_
    refine va_slen hx hb hX hbl hbA hS dL_law_41 ?_
    refine lv_icmp_ge (tgt := 67) hx hb dL_law_42 (by decide) (fun g => ?_) (fun g => ?_)
    · exact law_mid hL C0 hK n hn f hW H locs hP hD hS ls (lv_sub hl [0, 1, 2] rfl)
    · have hiL : i < L := Nat.not_le.mp (fun q => g (nI_le q (by omega)))
      refine lv_iload_n hx hb dL_law_45 rfl (lv_at hl 2 rfl) ?_
      refine lv_sipush (v := nI 156) hx hb dL_law_46 (by decide) ?_
      refine lv_icmp_gt (tgt := 67) hx hb dL_law_49 (by decide) (fun g2 => ?_) (fun g2 => ?_)
      · exact law_mid hL C0 hK n hn f hW H locs hP hD hS ls (lv_sub hl [0, 1, 2] rfl)
      · have hn2 : n ≤ 156 := Nat.not_lt.mp (fun q => g2 (nI_lt q (by omega)))
        refine lv_aload_n hx hb dL_law_52 rfl (lv_at hl 1 rfl) ?_
        refine lv_iload_n hx hb dL_law_53 rfl (lv_at hl 2 rfl) ?_
        refine lv_aload_n hx hb dL_law_54 rfl (lv_at hl 0 rfl) ?_
        refine lv_iload_n hx hb dL_law_55 rfl (lv_at hl 3 rfl) ?_
        refine va_sld hx hb hX hbl hbA hS (vp_in_nI hiL (by omega)) dL_law_56 ?_
        refine wt_calli (va_runS (As := [.ref h0, .int (nI n), .int (xs (nI i).toNatClampNeg)]) (rest := []) ⟨hx, hb, hml, hown, hts⟩ (m_lay l dC dI h0 h1 d f _ n (xs (nI i).toNatClampNeg) hn2) (va_cwS 3 hts (lw_S q138 q139 q4 q140) rfl rfl rfl (by decide +kernel) ⟨Nat.le_of_ble_eq_true rfl, Nat.le_of_ble_eq_true rfl⟩) (wt_preUS hK hP hD) rfl rfl hl.1 rfl (lv_room (Nat.le_of_ble_eq_true rfl)) dL_law_57 ⟨Nat.le_of_ble_eq_true rfl, Nat.le_of_ble_eq_true rfl⟩) hP hD hS hA (fun r f1 n1 H locs hw hP hD hS => ?_)
        obtain ⟨j, hj, er, hlow, hn1⟩ := hw
        have hn1 : n1 = nI 160 := hn1
        subst hn1
        subst er
        have hj4 := (u8_pos hj).2
        refine lv_istore_n (lv' := [(2, .int (nI (n + j))), (0, .ref b), (1, .ref h0), (3, .int (nI i))]) hx hb dL_law_60 rfl hl (by decide) rfl (fun ls hl => ?_)
        refine lv_iinc (v := nI (i + 1)) (lv' := [(3, .int (nI (i + 1))), (2, .int (nI (n + j))), (0, .ref b), (1, .ref h0)]) hx hb dL_law_61 hl (k := 3) rfl (nI_1 i) (by decide) rfl (fun ls hl => ?_)
        refine lv_goto (tgt := 39) hx hb dL_law_64 (by decide) ?_
        exact ih (i + 1) (n + j) (by omega) (by omega) (by omega) f1 (u8_cat (u8_same hlow hW) (u8_cons hj u8_refl)) H locs hP hD hS ls (lv_sub hl [2, 3, 1, 0] rfl)
set_option maxHeartbeats 4000000 in
set_option maxRecDepth 100000 in
/-- the law's first loop: ten times 16 places -/
theorem law_puts {p : Program} {l : Launch} {e : Env} {s : State} {m : MethodId} {below : List Frame} {meth : Method} {c : Code} {dC : Nat → ClassId} {dI : Nat → Nat → Nat} {b L : Nat} {xs : Nat → Int32} {h0 h1 : Nat} {d : ClassId} (hL : L ≤ 40) (C0 : lw_At p s m meth c b L xs) (hK : va_K (dC, dI) vwCl [(d, .byte)] s) :
    ∀ (t i : Nat), i ≤ 10 → 11 ≤ i + t → ∀ (f : Nat → Int32) (H : Heap) (locs : List Loc), va_P (dC, dI) vwCl (wt h0 h1 d f (nI (16 * i))) H → va_D (fun q : Nat => s.heap.size ≤ q) (wt h0 h1 d f (nI (16 * i))) → va_S (fun q : Nat => s.heap.size ≤ q) s.heap H locs → ∀ (ls : Array Slot), lv_has ls 5 [(0, .ref b), (1, .ref h0), (2, .int (nI i))] → W p l e room_1 s m #[Value.ref b] below meth c H locs 2 4098 (lw_Z below #[Value.ref b] s) (F0 m 10 ls []) := by
  obtain ⟨hx, hb, hr, hml, hown, htb, hX, hbl, hlocks, hgv⟩ := id C0
  have hts : ∀ w ∈ lw_all, w.before #[Value.ref b] s = true := fun w h => htb w (lw_all_tbl h)
  have hA : ∀ q : Nat, s.heap.size ≤ q → (fun q : Nat => s.heap.size ≤ q) q := fun _ h => h
  have hbA : ¬ (fun q : Nat => s.heap.size ≤ q) b := Nat.not_le.mpr hbl
  intro t
  induction t with
  | zero =>
    intro i h1 h2
    exact absurd h2 (by omega)
  | succ t ih =>
    intro i hi hit f H locs hP hD hS ls hl
    refine lv_iload_n hx hb dL_law_10 rfl (lv_at hl 2 rfl) ?_
    refine lv_bipush (v := nI 10) hx hb dL_law_11 (by decide) ?_
    refine lv_icmp_ge (tgt := 35) hx hb dL_law_13 (by decide) (fun g => ?_) (fun g => ?_)
    · have he : i = 10 := Nat.le_antisymm hi ((nI_leI (by decide) (by omega)).mp g)
      subst he
      refine lv_iconst (v := nI 0) hx hb dL_law_35 (by decide) ?_
      refine lv_istore_n (lv' := [(2, .int (nI 0)), (0, .ref b), (1, .ref h0)]) hx hb dL_law_36 rfl hl (by decide) rfl (fun ls hl => ?_)
      refine lv_iconst (v := nI 3) hx hb dL_law_37 (by decide) ?_
      refine lv_istore_n (lv' := [(3, .int (nI 3)), (2, .int (nI 0)), (0, .ref b), (1, .ref h0)]) hx hb dL_law_38 rfl hl (by decide) rfl (fun ls hl => ?_)
      exact law_lays hL C0 hK 38 3 0 (by decide) (by decide) (by decide) f u8_refl H locs hP hD hS ls (lv_sub hl [2, 3, 1, 0] rfl)
    · have hlt : i < 10 := Nat.not_le.mp (fun q => g (nI_le q (by omega)))
      refine lv_aload_n hx hb dL_law_16 rfl (lv_at hl 1 rfl) ?_
      refine lv_iconst (v := 0) hx hb dL_law_17 (by decide) ?_
      refine lv_iconst (v := 0) hx hb dL_law_18 (by decide) ?_
      refine lv_iconst (v := 0) hx hb dL_law_19 (by decide) ?_
      refine lv_iconst (v := 0) hx hb dL_law_20 (by decide) ?_
      refine wt_calli (va_runV (As := [.int 0, .int 0, .int 0, .int 0]) (rest := []) ⟨hx, hb, hml, hown, hts⟩ (m_put l dC dI h0 h1 d f _ (16 * i) 0 0 0 0 (by omega)) (cwV 4 hts (lw_V q28 q29 q30 q5 q31) rfl rfl rfl (by decide +kernel) ⟨Nat.le_of_ble_eq_true rfl, Nat.le_of_ble_eq_true rfl⟩) (wt_preU hK hP hD) rfl rfl hl.1 rfl (lv_room (Nat.le_of_ble_eq_true rfl)) dL_law_21 ⟨Nat.le_of_ble_eq_true rfl, Nat.le_of_ble_eq_true rfl⟩) hP hD hS hA (fun r f1 n1 H locs hw hP hD hS => ?_)
      obtain ⟨er, hn1⟩ := hw
      have hn1 : n1 = nI (16 * (i + 1)) := hn1
      subst hn1
      subst er
      refine lv_if_ne (tgt := 29) hx hb dL_law_24 (by decide) (fun g1 => ?_) (fun g1 => ?_)
      · refine lv_iinc (v := nI (i + 1)) (lv' := [(2, .int (nI (i + 1))), (0, .ref b), (1, .ref h0)]) hx hb dL_law_29 hl (k := 2) rfl (nI_1 i) (by decide) rfl (fun ls hl => ?_)
        refine lv_goto (tgt := 10) hx hb dL_law_32 (by decide) ?_
        exact ih (i + 1) (by omega) (by omega) f1 H locs hP hD hS ls (lv_sub hl [1, 2, 0] rfl)
      · exact absurd g1 (by decide)
set_option maxHeartbeats 4000000 in
set_option maxRecDepth 100000 in
/-- THE LAW, from its entry -/
theorem whole_start {p : Program} {e : Env} {s : State} {m : MethodId} {below : List Frame} {meth : Method} {c : Code} (l : Launch) (hflags : l.flags = flags0) {b L : Nat} {xs : Nat → Int32} (hL : L ≤ 40) (C0 : lw_At p s m meth c b L xs) : W p l e room_1 s m #[Value.ref b] below meth c s.heap [] 0 0 (lw_Z below #[Value.ref b] s) (entryFrame m ([Value.ref b] : List Value).toArray 5) := by
  obtain ⟨hx, hb, hr, hml, hown, htb, hX, hbl, hlocks, hgv⟩ := id C0
  have hts : ∀ w ∈ lw_all, w.before #[Value.ref b] s = true := fun w h => htb w (lw_all_tbl h)
  have hA : ∀ q : Nat, s.heap.size ≤ q → (fun q : Nat => s.heap.size ≤ q) q := fun _ h => h
  have hbA : ¬ (fun q : Nat => s.heap.size ≤ q) b := Nat.not_le.mpr hbl
  obtain ⟨c0, iS0, hKn0⟩ := u_known (C := RX1) (T := TX1) (N := 2) (n := 2) htb (fun w h => lw_all_tbl (in_X1 w h)) (htb _ (lw_all_tbl q13))
  obtain ⟨dC, dI, hKc⟩ : ∃ (dC : Nat → ClassId) (dI : Nat → Nat → Nat), ∀ (k : Nat) (q : vw_C), vwCl[k]? = some q → u_Kn s q.1 q.2.1 q.2.2 (dC k) (dI k) := by
    refine ⟨fun _ => c0, fun _ => iS0, ?_⟩
    intro k q hq
    match k, hq with
    | 0, hq => cases hq; exact hKn0
    | k + 1, hq => simp [vwCl] at hq
  have hS : va_S (fun q : Nat => s.heap.size ≤ q) s.heap s.heap [] := va_S.rf
  have hK : va_K (dC, dI) vwCl [] s := ⟨hKc, fun k q h => by simp at h⟩
  have hP : va_P (dC, dI) vwCl [] s.heap := fun k q h => by simp at h
  have hD : va_D (fun q : Nat => s.heap.size ≤ q) [] := ⟨fun i j p q h => by simp at h, fun k q h => by simp at h⟩
  have hl := lv_entry ([.ref b]) (n := 5) (Nat.le_of_ble_eq_true rfl)
  rw [lg_entry_eq]
  generalize (lg_sl ([.ref b]) ++ List.replicate (5 - (lg_sl ([.ref b])).length) Slot.unset).toArray = ls at hl ⊢
  have hl : lv_has ls 5 [(0, .ref b)] := hl
  refine va_new (ci := 0) (fs := [.null, .int 0]) (C := RX1) (T := TX1) (N := 2) hx hb hts in_X1 tyX1 tyX1_ok hown (hts _ q12) (hts _ q13) (hts _ q5) hK hP hD hS hA rfl (fun j hj => by rcases (show j = 0 ∨ j = 1 by omega) with rfl | rfl <;> rfl) (Nat.le_of_ble_eq_true rfl) (Nat.le_of_ble_eq_true rfl) dL_law_0 (fun h0 H hP hD hS => ?_)
  have hP : va_P (dC, dI) vwCl [(h0, .inr (0, [.null, .int 0]))] H := hP
  have hD : va_D (fun q : Nat => s.heap.size ≤ q) [(h0, .inr (0, [.null, .int 0]))] := hD
  refine W.widen (k := 1) (n := 2) (Nat.le_of_ble_eq_true rfl) (Nat.le_of_ble_eq_true rfl) ?_
  refine lv_dup hx hb dL_law_3 rfl ?_
  have hFc := va_free (wc := [(h0, .inr (0, [.null, .int 0]))]) hD hS hA [0] rfl
  refine va_callv (va_runI (As := []) (rest := [.ref h0]) ⟨hx, hb, hml, hown, hts⟩ (m_init l dC dI h0 H.size) (cwI 0 hts (lw_meth q16) rfl rfl rfl (hts _ q5) (hts _ q14) (hts _ q15) rfl (by decide +kernel) ⟨Nat.le_of_ble_eq_true rfl, Nat.le_of_ble_eq_true rfl⟩) ⟨fun a U g mk q => by obtain ⟨q0, q1, qP, qK, qD⟩ := q; exact ⟨q0, q1, qP, va_K.moved (u := U) (U := U.calling g mk a) (Vm.Alike.refl U.vm) qK, qD⟩, fun U hU hW => ⟨rfl, by rw [hU], by rw [hU]; exact hP, va_K.moved hW.alike hK, hD.weaken (fun _ _ _ _ => trivial)⟩⟩ rfl rfl hl.1 rfl (lv_room (Nat.le_of_ble_eq_true rfl)) dL_law_4 ⟨Nat.le_of_ble_eq_true rfl, Nat.le_of_ble_eq_true rfl⟩) hS (fun q _ h => hFc q h) hFc (fun u t H1 locs ht hvm hw hB hz1 hk1 hS => ?_)
  obtain ⟨h1, d⟩ := u
  obtain ⟨hP1, hK1, hD1⟩ := hB
  rw [ht] at hP1
  have hK1 := va_K.moved hvm.symm hK1
  obtain ⟨hP, hD⟩ := va_join (wr := []) (w1 := wt h0 h1 d (fun _ => 0) 0) hP hD [0] [] rfl rfl (by decide) (by decide) hk1 hFc hP1 hD1
  refine W.widen (k := 2) (n := 4098) (Nat.le_of_ble_eq_true rfl) (Nat.le_of_ble_eq_true rfl) ?_
  refine lv_astore_n (lv' := [(1, .ref h0), (0, .ref b)]) hx hb dL_law_7 rfl hl (by decide) rfl (fun ls hl => ?_)
  refine lv_iconst (v := nI 0) hx hb dL_law_8 (by decide) ?_
  refine lv_istore_n (lv' := [(2, .int (nI 0)), (1, .ref h0), (0, .ref b)]) hx hb dL_law_9 rfl hl (by decide) rfl (fun ls hl => ?_)
  exact law_puts hL C0 hK1 11 0 (by decide) (by decide) (fun _ => 0) H1 locs hP hD hS ls (lv_sub hl [2, 1, 0] rfl)
end
section
set_option maxHeartbeats 4000000 in
theorem lw_walk (l : Launch) (hflags : l.flags = flags0) (b : Addr) (xs : List Int32) : MetFree l x (headSpec (Jvm.Cond.code x code maxLocals ret :: tables_1) room_1) (lw_P b xs) (fun _ _ _ _ _ => True) lw_Q := by
  refine MetFree.of_bodyS (code := code) (maxLocals := maxLocals) (ret := ret) (by decide) ?_ ?_
  · intro args s m h hn
    obtain ⟨meth, c, h1, h2, h3, h4, h5, h6, -, -⟩ := Cond.code_spec hn (atoms_spec (ws := Jvm.Cond.code x code maxLocals ret :: tables_1) h _ List.mem_cons_self)
    exact ⟨meth, c, h1, h2, h3, h4, h5, h6⟩
  · intro p e s m args below meth c s₁ B hml0 hP _
    obtain ⟨rfl, hx, hbd, hgv⟩ := hP
    obtain ⟨scr, harrAt, hlist, hof, hsmall⟩ := hx
    obtain ⟨hcb, hkn, -, -⟩ := State.arrayAt?_spec harrAt
    have hown : s.vm.findClass R_law = some m.cls := findClass_of_methodNamed B.named
    have hts0 : ∀ c ∈ (Jvm.Cond.code x code maxLocals ret :: tables_1), c.before #[Value.ref b] s = true := atoms_spec (ws := Jvm.Cond.code x code maxLocals ret :: tables_1) B.pre
    have hts : ∀ w ∈ lw_tbl, w.before #[Value.ref b] s = true := k2_hts_sels lw_privs (fun w hw => hts0 w (List.mem_cons_of_mem _ hw)) lw_privs_ok
    have hml : c.maxLocals = 5 := B.maxLocals_eq (hts0 _ List.mem_cons_self)
    have X₀ : Stand p l e room_1 s m #[Value.ref b] below meth c s₁ [] 0 0 := Stand.of_body B
    have hh0 : s₁.heap = s.heap := by rw [B.state]; rfl
    have hsz : scr.slots.size = xs.length := by rw [← Array.length_toList, hlist, List.length_map]
    have hval : ∀ j : Nat, j < xs.length → scr.slots[j]? = some (.int (xs.getD j 0)) := fun j hj => by
      rw [← Array.getElem?_toList, hlist]
      simp [hj]
    have hbl : b < s.heap.size := (Array.getElem?_eq_some_iff.mp hcb).1
    have hX : va_X b xs.length (fun j => xs.getD j 0) s s.heap := ⟨scr, hcb, hof, hkn, hsz, hval⟩
    have K : W p l e room_1 s m #[Value.ref b] below meth c s₁.heap [] 0 0 (lw_Z below #[Value.ref b] s) (entryFrame m ([Value.ref b] : List Value).toArray 5) := by
      rw [hh0]
      exact whole_start l hflags hbd ⟨B.exec, B.bytes, B.returns, hml, hown, hts, hX, hbl, B.notSynchronized, hgv⟩
    obtain ⟨t, a1, o, b1, b2, b3⟩ := K s₁ rfl X₀
    exact ⟨t, o, a1, b1, b2, b3⟩
theorem lw_pre_spec {args : Array Value} {s : State} (h : (Jvm.Cond.and given_1 narrow_1).before args s = true) (hr : rest_1_c.before args s = true) : ∃ (b : Addr) (xs : List Int32), lw_P b xs args s := by
  have hs := flat_of_before _ h
  have hq := flat_of_before _ hr
  have hc : (Cond.count 1).before args s = true := hs _ (by decide +kernel)
  have harr : (Cond.arrayOf (.arg 0) .int).before args s = true := hs _ (by decide +kernel)
  have hle : (Cond.le (.length (.arg 0)) (.int 40)).before args s = true := hs _ (by decide +kernel)
  have hlen : (Cond.isInt (.length (.arg 0))).before args s = true := hq _ (by decide +kernel)
  have hall : (Cond.all (.arg 0) (.isInt (.elem (.arg 0) (.index 0)))).before args s = true := hq _ (by decide +kernel)
  obtain ⟨b, xs, hb, hx⟩ := State.ints_of_pre rfl harr hlen hall
  have hsm : xs.length < 2 ^ 31 := hx.choose_spec.2.2.2
  have hev : (Term.length (.arg 0)).eval args s none [] s = some (.int xs.length.toInt32) := hx.length_eval hb
  have hv := Cond.le_ints hev (show (Term.int 40).eval args s none [] s = some (.int 40) from rfl)
  have hd : xs.length.toInt32 ≤ 40 := by
    simpa [Cond.before, Cond.holds, hv] using hle
  have hN : xs.length ≤ 40 := (Int32.ofNat_le_ofNat hsm (by decide)).mp (show Int32.ofNat xs.length ≤ Int32.ofNat 40 from hd)
  exact ⟨b, xs, Cond.one_arg hc (show args[0]? = some (.ref b) from hb), hx, hN, h⟩
theorem lw_comes (l : Launch) (hflags : l.flags = flags0) : Comes l x (Jvm.Cond.code x code maxLocals ret :: tables_1) room_1 (fun tb e args s => Calls_1 tb e args s ∧ rest_1 tb e args s ∧ Pre_1 tb e args s)
    (fun _ _ args s o t => lw_Q args s o t) := by
  intro p e ha hc hk s m args below hf hfit hheap happ hpre
  obtain ⟨b, xs, hP⟩ := lw_pre_spec hpre.2.2 hpre.2.1
  obtain ⟨k, o, h1, h2, h3, hQ⟩ := lw_walk l hflags b xs p e ha hc hk s m args below hf ((Spec.applies_iff_loose hf).mp happ).1 hP trivial
  exact ⟨k, o, h1, h2, h3, hQ⟩
theorem lw_frame {s t : State} {o : Outcome} {args : Array Value} (h : Framed s o t [] 600000 7290000) :
    Framed s o t (fieldLocs frame_1_writes args s ++ arrayLocs frame_1_arrays args s ++ staticLocs frame_1_statics s) 600000 7290000 := h
theorem lw_limb (L : Cond) (hL : ∀ (args : Array Value) (s t : State), L.after args s (.returned (some (.int 1))) t = true) :
    ArmFor flags0 classFile x code maxLocals ret World_1 tables_1 room_1 Calls_1 rest_1 Pre_1
      (fun tb e a s o t => postC L tb e a s o t ∧ Framed s o t (fieldLocs frame_1_writes a s ++ arrayLocs frame_1_arrays a s ++ staticLocs frame_1_statics s) 600000 7290000) := by
  intro l hflags _ _ p e ha hc hk s m args below hf hfit hheap happ hpre
  obtain ⟨k, o, h1, h2, h3, rfl, hF⟩ := lw_comes l hflags p e ha hc hk s m args below hf hfit hheap happ hpre
  exact ⟨k, _, h1, h2, h3, hL args s _, lw_frame hF⟩
theorem i_vc : Claimed_1_1 ∧ Claimed_1_2 := ⟨lw_limb limb_1_1 (fun args s t => by simp [limb_1_1, Cond.after, Cond.holds, Cond.value]), lw_limb limb_1_2 (fun args s t => Cond.after_iff.mpr (by
  first | (rw [show limb_1_2 = Cond.eq .result (.int 1) from rfl, Cond.eq_ints (x := 1) (y := 1) rfl rfl]; simp; done) | (simp [limb_1_2, Cond.value, Term.eval]; done)))⟩
end
