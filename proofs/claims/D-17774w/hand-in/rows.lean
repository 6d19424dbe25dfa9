section
-- ===== PART A: goes FIRST, ahead of the names: the tables' words, and 'selects' of the private methods out of them =====
/-- a private method of a class that the tables say can be made, by its rows of tables_1 -/
def lw_okq (q : MethodName × Nat) : Prop := (q.1.cls ≠ "java/lang/invoke/MethodHandle" ∧ q.1.cls ≠ "java/lang/invoke/VarHandle") ∧ Cond.instantiable q.1.cls q.2 ∈ tables_1 ∧ Cond.privateMethod q.1 ∈ tables_1 ∧ Cond.instanceMethod q.1 ∈ tables_1
set_option maxRecDepth 100000
theorem lw_t1 {w : Cond} (h : w ∈ tables_1_1) : w ∈ tables_1 := List.mem_append_left _ h
theorem lw_t2 {w : Cond} (h : w ∈ tables_1_2) : w ∈ tables_1 := List.mem_append_right _ h
theorem lw_p0 : lw_okq (⟨"StreamHashDesk", "from", "(I)I"⟩, 4) := ⟨⟨by decide +kernel, by decide +kernel⟩, lw_t1 (List.mem_of_getElem? (i := 19) rfl), lw_t1 (List.mem_of_getElem? (i := 52) rfl), lw_t1 (List.mem_of_getElem? (i := 53) rfl)⟩
theorem lw_p1 : lw_okq (⟨"StreamHashDesk", "count", "(II)I"⟩, 4) := ⟨⟨by decide +kernel, by decide +kernel⟩, lw_t1 (List.mem_of_getElem? (i := 19) rfl), lw_t1 (List.mem_of_getElem? (i := 110) rfl), lw_t1 (List.mem_of_getElem? (i := 111) rfl)⟩
theorem lw_p2 : lw_okq (⟨"java/lang/Throwable", "fillInStackTrace", "(I)Ljava/lang/Throwable;"⟩, 6) := ⟨⟨by decide +kernel, by decide +kernel⟩, lw_t1 (List.mem_of_getElem? (i := 164) rfl), lw_t1 (List.mem_of_getElem? (i := 162) rfl), lw_t1 (List.mem_of_getElem? (i := 163) rfl)⟩
theorem lw_p3 : lw_okq (⟨"Murmur3_32HashFunction$Murmur3_32Hasher", "update", "(IJ)V"⟩, 5) := ⟨⟨by decide +kernel, by decide +kernel⟩, lw_t1 (List.mem_of_getElem? (i := 81) rfl), lw_t1 (List.mem_of_getElem? (i := 199) rfl), lw_t1 (List.mem_of_getElem? (i := 200) rfl)⟩
theorem lw_p4 : lw_okq (⟨"StreamHashDeskLaw", "isLet", "(Z[B)Z"⟩, 3) := ⟨⟨by decide +kernel, by decide +kernel⟩, lw_t2 (List.mem_of_getElem? (i := 117) rfl), lw_t2 (List.mem_of_getElem? (i := 157) rfl), lw_t2 (List.mem_of_getElem? (i := 158) rfl)⟩
theorem lw_p5 : lw_okq (⟨"StreamHashDeskLaw", "closes", "(LStreamHashDesk;)Z"⟩, 3) := ⟨⟨by decide +kernel, by decide +kernel⟩, lw_t2 (List.mem_of_getElem? (i := 117) rfl), lw_t2 (List.mem_of_getElem? (i := 161) rfl), lw_t2 (List.mem_of_getElem? (i := 162) rfl)⟩
def lw_privs_1 : List (MethodName × Nat) := [(⟨"StreamHashDesk", "from", "(I)I"⟩, 4), (⟨"StreamHashDesk", "count", "(II)I"⟩, 4), (⟨"java/lang/Throwable", "fillInStackTrace", "(I)Ljava/lang/Throwable;"⟩, 6), (⟨"Murmur3_32HashFunction$Murmur3_32Hasher", "update", "(IJ)V"⟩, 5), (⟨"StreamHashDeskLaw", "isLet", "(Z[B)Z"⟩, 3), (⟨"StreamHashDeskLaw", "closes", "(LStreamHashDesk;)Z"⟩, 3)]
theorem lw_r1 : ∀ q ∈ lw_privs_1, lw_okq q := List.forall_mem_cons.mpr ⟨lw_p0, List.forall_mem_cons.mpr ⟨lw_p1, List.forall_mem_cons.mpr ⟨lw_p2, List.forall_mem_cons.mpr ⟨lw_p3, List.forall_mem_cons.mpr ⟨lw_p4, List.forall_mem_cons.mpr ⟨lw_p5, fun _ h => absurd h List.not_mem_nil⟩⟩⟩⟩⟩⟩
def lw_privs : List (MethodName × Nat) := lw_privs_1
def lw_tbl : List Cond := k2_sels lw_privs ++ tables_1
theorem lw_privs_ok : ∀ q ∈ lw_privs, lw_okq q := lw_r1
-- ===== ONE list of words for every method: the tables' words that hold all through a run =====
def lw_all : List Cond := lw_tbl.filter goodWord
/-- a word of the tables by its place: claim/WORDS.tsv -/
theorem lw_w {w : Cond} (i : Nat) (h : lw_tbl[i]? = some w) (g : goodWord w = true) : w ∈ lw_all := List.mem_filter.mpr ⟨List.mem_of_getElem? h, g⟩
theorem lw_all_tbl {w : Cond} (h : w ∈ lw_all) : w ∈ lw_tbl := (List.mem_filter.mp h).1
theorem lw_self : GoodIn lw_all lw_all := fun w h => ⟨h, good_of_word (List.mem_filter.mp h).2⟩
/-- a class's field words, by their places -/
theorem lw_in (ws : List Cond) (ps : List Nat) (hp : ws = ps.filterMap (fun i => lw_tbl[i]?)) (hg : ws.all goodWord = true) : ∀ w ∈ ws, w ∈ lw_all := by
  intro w h
  have h1 := List.all_eq_true.mp hg w h
  rw [hp] at h
  obtain ⟨i, -, hi⟩ := List.mem_filterMap.mp h
  exact lw_w i hi h1
/-- the words of a contract for the method y with code b, L locals, answer r -/
abbrev ws_ (y : MethodName) (b : ByteArray) (L : Nat) (r : Option FieldType) : List Cond := Cond.code y b L r :: lw_all
theorem lw_meth {y : MethodName} {b : ByteArray} {L : Nat} {r : Option FieldType} (h : Cond.code y b L r ∈ lw_all) : GoodIn lw_all (ws_ y b L r) := by
  intro w hw
  rcases List.mem_cons.mp hw with e | e
  · rw [e]
    exact lw_self _ h
  · exact lw_self _ e
theorem lw_app {a c : List Cond} (ha : ∀ w ∈ a, w ∈ lw_all) (hc : GoodIn lw_all c) : GoodIn lw_all (a ++ c) := by
  intro w hw
  rcases List.mem_append.mp hw with e | e
  · exact lw_self w (ha w e)
  · exact hc w e
/-- what a call through an object asks: cwV n hts (lw_V ..) -/
theorem lw_V {own : String} {idx : Nat} {C : String} {y : MethodName} {b : ByteArray} {L : Nat} {r : Option FieldType} (h1 : Cond.methodLink own idx y ∈ lw_all) (h2 : Cond.instanceMethod y ∈ lw_all) (h3 : Cond.selects C y y ∈ lw_all) (h4 : Cond.initialized C ∈ lw_all) (h5 : Cond.code y b L r ∈ lw_all) : GoodIn lw_all (wsV own idx C y (ws_ y b L r)) := by
  refine lw_app ?_ (lw_meth h5)
  intro w hw
  simp only [List.mem_cons, List.not_mem_nil, or_false] at hw
  rcases hw with e | e | e | e
  · rw [e]; exact h1
  · rw [e]; exact h2
  · rw [e]; exact h3
  · rw [e]; exact h4
/-- what a static call asks: va_cwS n hts (lw_S ..) -/
theorem lw_S {own : String} {idx : Nat} {y : MethodName} {b : ByteArray} {L : Nat} {r : Option FieldType} (h1 : Cond.methodLink own idx y ∈ lw_all) (h2 : Cond.static y ∈ lw_all) (h3 : Cond.initialized y.cls ∈ lw_all) (h4 : Cond.code y b L r ∈ lw_all) : GoodIn lw_all (va_wsS own idx y (ws_ y b L r)) := by
  refine lw_app ?_ (lw_meth h4)
  intro w hw
  simp only [List.mem_cons, List.not_mem_nil, or_false] at hw
  rcases hw with e | e | e
  · rw [e]; exact h1
  · rw [e]; exact h2
  · rw [e]; exact h3
/-- the words of a contract for a method WITH HANDLERS (hh: its table) -/
abbrev wsW_ (y : MethodName) (b : ByteArray) (L : Nat) (r : Option FieldType) (hh : List (Nat × Nat × Nat × Nat)) : List Cond := Cond.codeWith y b L r hh :: lw_all
theorem lw_methW {y : MethodName} {b : ByteArray} {L : Nat} {r : Option FieldType} {hh : List (Nat × Nat × Nat × Nat)} (h : Cond.codeWith y b L r hh ∈ lw_all) : GoodIn lw_all (wsW_ y b L r hh) := by
  intro w hw
  rcases List.mem_cons.mp hw with e | e
  · rw [e]
    exact lw_self _ h
  · exact lw_self _ e
/-- any list of words by their places (lw_in), good -/
theorem lw_good {ws : List Cond} (h : ∀ w ∈ ws, w ∈ lw_all) : GoodIn lw_all ws := fun w hw => lw_self w (h w hw)
/-- what a call of a method with handlers asks: vx_cwVW n hts (lw_VW ..), vx_cwSW n hts (lw_SW ..) -/
theorem lw_VW {own : String} {idx : Nat} {C : String} {y : MethodName} {b : ByteArray} {L : Nat} {r : Option FieldType} {hh : List (Nat × Nat × Nat × Nat)} (h1 : Cond.methodLink own idx y ∈ lw_all) (h2 : Cond.instanceMethod y ∈ lw_all) (h3 : Cond.selects C y y ∈ lw_all) (h4 : Cond.initialized C ∈ lw_all) (h5 : Cond.codeWith y b L r hh ∈ lw_all) : GoodIn lw_all (wsV own idx C y (wsW_ y b L r hh)) := by
  refine lw_app ?_ (lw_methW h5)
  intro w hw
  simp only [List.mem_cons, List.not_mem_nil, or_false] at hw
  rcases hw with e | e | e | e
  · rw [e]; exact h1
  · rw [e]; exact h2
  · rw [e]; exact h3
  · rw [e]; exact h4
theorem lw_SW {own : String} {idx : Nat} {y : MethodName} {b : ByteArray} {L : Nat} {r : Option FieldType} {hh : List (Nat × Nat × Nat × Nat)} (h1 : Cond.methodLink own idx y ∈ lw_all) (h2 : Cond.static y ∈ lw_all) (h3 : Cond.initialized y.cls ∈ lw_all) (h4 : Cond.codeWith y b L r hh ∈ lw_all) : GoodIn lw_all (va_wsS own idx y (wsW_ y b L r hh)) := by
  refine lw_app ?_ (lw_methW h4)
  intro w hw
  simp only [List.mem_cons, List.not_mem_nil, or_false] at hw
  rcases hw with e | e | e
  · rw [e]; exact h1
  · rw [e]; exact h2
  · rw [e]; exact h3
/-- a word by its place in its run of the tables -/
theorem lw_at {r : List Cond} (hr : ∀ w ∈ r, w ∈ lw_tbl) {w : Cond} (i : Nat) (h : r[i]? = some w) : w ∈ lw_tbl := hr w (List.mem_of_getElem? h)
theorem lw_g {w : Cond} (h : w ∈ lw_tbl) (g : goodWord w = true) : w ∈ lw_all := List.mem_filter.mpr ⟨h, g⟩
theorem lw_ms : ∀ w ∈ k2_sels lw_privs, w ∈ lw_tbl := fun w h => show w ∈ k2_sels lw_privs ++ tables_1 from List.mem_append_left _ h
theorem lw_m1 : ∀ w ∈ tables_1_1, w ∈ lw_tbl := fun w h => show w ∈ k2_sels lw_privs ++ tables_1 from List.mem_append_right (k2_sels lw_privs) (show w ∈ tables_1 from List.mem_append_left _ h)
theorem lw_m2 : ∀ w ∈ tables_1_2, w ∈ lw_tbl := fun w h => show w ∈ k2_sels lw_privs ++ tables_1 from List.mem_append_right (k2_sels lw_privs) (show w ∈ tables_1 from List.mem_append_right _ h)
theorem qs0 : (Cond.selects "StreamHashDesk" ⟨"StreamHashDesk", "from", "(I)I"⟩ ⟨"StreamHashDesk", "from", "(I)I"⟩) ∈ lw_all := lw_g (lw_at lw_ms 0 rfl) rfl
theorem qs1 : (Cond.selects "StreamHashDesk" ⟨"StreamHashDesk", "count", "(II)I"⟩ ⟨"StreamHashDesk", "count", "(II)I"⟩) ∈ lw_all := lw_g (lw_at lw_ms 1 rfl) rfl
theorem qs2 : (Cond.selects "java/lang/Throwable" ⟨"java/lang/Throwable", "fillInStackTrace", "(I)Ljava/lang/Throwable;"⟩ ⟨"java/lang/Throwable", "fillInStackTrace", "(I)Ljava/lang/Throwable;"⟩) ∈ lw_all := lw_g (lw_at lw_ms 2 rfl) rfl
theorem qs3 : (Cond.selects "Murmur3_32HashFunction$Murmur3_32Hasher" ⟨"Murmur3_32HashFunction$Murmur3_32Hasher", "update", "(IJ)V"⟩ ⟨"Murmur3_32HashFunction$Murmur3_32Hasher", "update", "(IJ)V"⟩) ∈ lw_all := lw_g (lw_at lw_ms 3 rfl) rfl
theorem qs4 : (Cond.selects "StreamHashDeskLaw" ⟨"StreamHashDeskLaw", "isLet", "(Z[B)Z"⟩ ⟨"StreamHashDeskLaw", "isLet", "(Z[B)Z"⟩) ∈ lw_all := lw_g (lw_at lw_ms 4 rfl) rfl
theorem qs5 : (Cond.selects "StreamHashDeskLaw" ⟨"StreamHashDeskLaw", "closes", "(LStreamHashDesk;)Z"⟩ ⟨"StreamHashDeskLaw", "closes", "(LStreamHashDesk;)Z"⟩) ∈ lw_all := lw_g (lw_at lw_ms 5 rfl) rfl
end
section
set_option maxRecDepth 100000
/-! java/lang/Integer -/
def RJ4 : String := "java/lang/Integer"
abbrev cJ4_rotateLeft : ByteArray := prog_18_method_50_code
def yJ4_rotateLeft : MethodName := ⟨RJ4, "rotateLeft", "(II)I"⟩
theorem dJ4_rotateLeft_0 : decode cJ4_rotateLeft 0 = .ok (.iload_n 0, 1) := by decide +kernel
theorem dJ4_rotateLeft_1 : decode cJ4_rotateLeft 1 = .ok (.iload_n 1, 1) := by decide +kernel
theorem dJ4_rotateLeft_2 : decode cJ4_rotateLeft 2 = .ok (.ishl, 1) := by decide +kernel
theorem dJ4_rotateLeft_3 : decode cJ4_rotateLeft 3 = .ok (.iload_n 0, 1) := by decide +kernel
theorem dJ4_rotateLeft_4 : decode cJ4_rotateLeft 4 = .ok (.iload_n 1, 1) := by decide +kernel
theorem dJ4_rotateLeft_5 : decode cJ4_rotateLeft 5 = .ok (.ineg, 1) := by decide +kernel
theorem dJ4_rotateLeft_6 : decode cJ4_rotateLeft 6 = .ok (.iushr, 1) := by decide +kernel
theorem dJ4_rotateLeft_7 : decode cJ4_rotateLeft 7 = .ok (.ior, 1) := by decide +kernel
theorem dJ4_rotateLeft_8 : decode cJ4_rotateLeft 8 = .ok (.ireturn, 1) := by decide +kernel
theorem q17 : (Jvm.Cond.initialized "java/lang/Integer") ∈ lw_all := lw_g (lw_at lw_m1 11 rfl) rfl
theorem q214 : (Jvm.Cond.static ({ cls := "java/lang/Integer", name := "rotateLeft", desc := "(II)I" } : Jvm.MethodName)) ∈ lw_all := lw_g (lw_at lw_m1 208 rfl) rfl
theorem q215 : (Jvm.Cond.code ({ cls := "java/lang/Integer", name := "rotateLeft", desc := "(II)I" } : Jvm.MethodName) prog_18_method_50_code (2 : Nat) (Option.some Jvm.ClassFile.FieldType.int)) ∈ lw_all := lw_g (lw_at lw_m1 209 rfl) rfl
/-! java/lang/Byte -/
def RJ5 : String := "java/lang/Byte"
abbrev cJ5_toUnsignedInt : ByteArray := prog_14_method_24_code
def yJ5_toUnsignedInt : MethodName := ⟨RJ5, "toUnsignedInt", "(B)I"⟩
theorem dJ5_toUnsignedInt_0 : decode cJ5_toUnsignedInt 0 = .ok (.iload_n 0, 1) := by decide +kernel
theorem dJ5_toUnsignedInt_1 : decode cJ5_toUnsignedInt 1 = .ok (.sipush 255, 3) := by decide +kernel
theorem dJ5_toUnsignedInt_4 : decode cJ5_toUnsignedInt 4 = .ok (.iand, 1) := by decide +kernel
theorem dJ5_toUnsignedInt_5 : decode cJ5_toUnsignedInt 5 = .ok (.ireturn, 1) := by decide +kernel
theorem q18 : (Jvm.Cond.initialized "java/lang/Byte") ∈ lw_all := lw_g (lw_at lw_m1 12 rfl) rfl
theorem q343 : (Jvm.Cond.static ({ cls := "java/lang/Byte", name := "toUnsignedInt", desc := "(B)I" } : Jvm.MethodName)) ∈ lw_all := lw_g (lw_at lw_m2 97 rfl) rfl
theorem q344 : (Jvm.Cond.code ({ cls := "java/lang/Byte", name := "toUnsignedInt", desc := "(B)I" } : Jvm.MethodName) prog_14_method_24_code (1 : Nat) (Option.some Jvm.ClassFile.FieldType.int)) ∈ lw_all := lw_g (lw_at lw_m2 98 rfl) rfl
/-! java/lang/Object -/
def RJ7 : String := "java/lang/Object"
abbrev cJ7_init : ByteArray := object_method_1_code
def yJ7_init : MethodName := ⟨RJ7, "<init>", "()V"⟩
theorem dJ7_init_0 : decode cJ7_init 0 = .ok (.return_, 1) := by decide +kernel
theorem q30 : (Jvm.Cond.instanceMethod ({ cls := "java/lang/Object", name := "<init>", desc := "()V" } : Jvm.MethodName)) ∈ lw_all := lw_g (lw_at lw_m1 24 rfl) rfl
theorem q31 : (Jvm.Cond.code ({ cls := "java/lang/Object", name := "<init>", desc := "()V" } : Jvm.MethodName) object_method_1_code (1 : Nat) (Option.none : Option Jvm.ClassFile.FieldType)) ∈ lw_all := lw_g (lw_at lw_m1 25 rfl) rfl
/-! AbstractHashFunction -/
def RX2 : String := "AbstractHashFunction"
abbrev cX2_init : ByteArray := prog_1_method_1_code
def yX2_init : MethodName := ⟨RX2, "<init>", "()V"⟩
theorem dX2_init_0 : decode cX2_init 0 = .ok (.aload_n 0, 1) := by decide +kernel
theorem dX2_init_1 : decode cX2_init 1 = .ok (.invokespecial 1, 3) := by decide +kernel
theorem dX2_init_4 : decode cX2_init 4 = .ok (.return_, 1) := by decide +kernel
theorem q8 : (Jvm.Cond.initialized "AbstractHashFunction") ∈ lw_all := lw_g (lw_at lw_m1 2 rfl) rfl
theorem q72 : (Jvm.Cond.instanceMethod ({ cls := "AbstractHashFunction", name := "<init>", desc := "()V" } : Jvm.MethodName)) ∈ lw_all := lw_g (lw_at lw_m1 66 rfl) rfl
theorem q73 : (Jvm.Cond.code ({ cls := "AbstractHashFunction", name := "<init>", desc := "()V" } : Jvm.MethodName) prog_1_method_1_code (1 : Nat) (Option.none : Option Jvm.ClassFile.FieldType)) ∈ lw_all := lw_g (lw_at lw_m1 67 rfl) rfl
theorem q74 : (Jvm.Cond.methodLink "AbstractHashFunction" (1 : Nat) ({ cls := "java/lang/Object", name := "<init>", desc := "()V" } : Jvm.MethodName)) ∈ lw_all := lw_g (lw_at lw_m1 68 rfl) rfl
/-! Preconditions -/
def RX4 : String := "Preconditions"
abbrev cX4_checkPositionIndexes : ByteArray := prog_11_method_2_code
def yX4_checkPositionIndexes : MethodName := ⟨RX4, "checkPositionIndexes", "(III)V"⟩
theorem dX4_checkPositionIndexes_0 : decode cX4_checkPositionIndexes 0 = .ok (.iload_n 0, 1) := by decide +kernel
theorem dX4_checkPositionIndexes_1 : decode cX4_checkPositionIndexes 1 = .ok (.ifCond .lt 13, 3) := by decide +kernel
theorem dX4_checkPositionIndexes_4 : decode cX4_checkPositionIndexes 4 = .ok (.iload_n 1, 1) := by decide +kernel
theorem dX4_checkPositionIndexes_5 : decode cX4_checkPositionIndexes 5 = .ok (.iload_n 0, 1) := by decide +kernel
theorem dX4_checkPositionIndexes_6 : decode cX4_checkPositionIndexes 6 = .ok (.if_icmp .lt 8, 3) := by decide +kernel
theorem dX4_checkPositionIndexes_9 : decode cX4_checkPositionIndexes 9 = .ok (.iload_n 1, 1) := by decide +kernel
theorem dX4_checkPositionIndexes_10 : decode cX4_checkPositionIndexes 10 = .ok (.iload_n 2, 1) := by decide +kernel
theorem dX4_checkPositionIndexes_11 : decode cX4_checkPositionIndexes 11 = .ok (.if_icmp .le 13, 3) := by decide +kernel
theorem dX4_checkPositionIndexes_14 : decode cX4_checkPositionIndexes 14 = .ok (.new 7, 3) := by decide +kernel
theorem dX4_checkPositionIndexes_17 : decode cX4_checkPositionIndexes 17 = .ok (.dup, 1) := by decide +kernel
theorem dX4_checkPositionIndexes_18 : decode cX4_checkPositionIndexes 18 = .ok (.ldc 9, 2) := by decide +kernel
theorem dX4_checkPositionIndexes_20 : decode cX4_checkPositionIndexes 20 = .ok (.invokespecial 11, 3) := by decide +kernel
theorem dX4_checkPositionIndexes_23 : decode cX4_checkPositionIndexes 23 = .ok (.athrow, 1) := by decide +kernel
theorem dX4_checkPositionIndexes_24 : decode cX4_checkPositionIndexes 24 = .ok (.return_, 1) := by decide +kernel
abbrev cX4_checkState : ByteArray := prog_11_method_1_code
def yX4_checkState : MethodName := ⟨RX4, "checkState", "(Z)V"⟩
theorem dX4_checkState_0 : decode cX4_checkState 0 = .ok (.iload_n 0, 1) := by decide +kernel
theorem dX4_checkState_1 : decode cX4_checkState 1 = .ok (.ifCond .ne 11, 3) := by decide +kernel
theorem dX4_checkState_4 : decode cX4_checkState 4 = .ok (.new 1, 3) := by decide +kernel
theorem dX4_checkState_7 : decode cX4_checkState 7 = .ok (.dup, 1) := by decide +kernel
theorem dX4_checkState_8 : decode cX4_checkState 8 = .ok (.invokespecial 3, 3) := by decide +kernel
theorem dX4_checkState_11 : decode cX4_checkState 11 = .ok (.athrow, 1) := by decide +kernel
theorem dX4_checkState_12 : decode cX4_checkState 12 = .ok (.return_, 1) := by decide +kernel
theorem q10 : (Jvm.Cond.initialized "Preconditions") ∈ lw_all := lw_g (lw_at lw_m1 4 rfl) rfl
theorem q130 : (Jvm.Cond.static ({ cls := "Preconditions", name := "checkPositionIndexes", desc := "(III)V" } : Jvm.MethodName)) ∈ lw_all := lw_g (lw_at lw_m1 124 rfl) rfl
theorem q131 : (Jvm.Cond.code ({ cls := "Preconditions", name := "checkPositionIndexes", desc := "(III)V" } : Jvm.MethodName) prog_11_method_2_code (3 : Nat) (Option.none : Option Jvm.ClassFile.FieldType)) ∈ lw_all := lw_g (lw_at lw_m1 125 rfl) rfl
theorem q132 : (Jvm.Cond.classLink "Preconditions" (7 : Nat) "java/lang/IndexOutOfBoundsException") ∈ lw_all := lw_g (lw_at lw_m1 126 rfl) rfl
theorem q172 : (Jvm.Cond.stringRef "Preconditions" (9 : Nat) "left out") ∈ lw_tbl := lw_at lw_m1 166 rfl
theorem q173 : (Jvm.Cond.methodLink "Preconditions" (11 : Nat) ({ cls := "java/lang/IndexOutOfBoundsException", name := "<init>", desc := "(Ljava/lang/String;)V" } : Jvm.MethodName)) ∈ lw_all := lw_g (lw_at lw_m1 167 rfl) rfl
theorem q280 : (Jvm.Cond.static ({ cls := "Preconditions", name := "checkState", desc := "(Z)V" } : Jvm.MethodName)) ∈ lw_all := lw_g (lw_at lw_m2 34 rfl) rfl
theorem q281 : (Jvm.Cond.code ({ cls := "Preconditions", name := "checkState", desc := "(Z)V" } : Jvm.MethodName) prog_11_method_1_code (1 : Nat) (Option.none : Option Jvm.ClassFile.FieldType)) ∈ lw_all := lw_g (lw_at lw_m2 35 rfl) rfl
theorem q282 : (Jvm.Cond.classLink "Preconditions" (1 : Nat) "java/lang/IllegalStateException") ∈ lw_all := lw_g (lw_at lw_m2 36 rfl) rfl
theorem q291 : (Jvm.Cond.methodLink "Preconditions" (3 : Nat) ({ cls := "java/lang/IllegalStateException", name := "<init>", desc := "()V" } : Jvm.MethodName)) ∈ lw_all := lw_g (lw_at lw_m2 45 rfl) rfl
/-! Ints -/
def RX5 : String := "Ints"
abbrev cX5_fromBytes : ByteArray := prog_6_method_1_code
def yX5_fromBytes : MethodName := ⟨RX5, "fromBytes", "(BBBB)I"⟩
theorem dX5_fromBytes_0 : decode cX5_fromBytes 0 = .ok (.iload_n 0, 1) := by decide +kernel
theorem dX5_fromBytes_1 : decode cX5_fromBytes 1 = .ok (.bipush 24, 2) := by decide +kernel
theorem dX5_fromBytes_3 : decode cX5_fromBytes 3 = .ok (.ishl, 1) := by decide +kernel
theorem dX5_fromBytes_4 : decode cX5_fromBytes 4 = .ok (.iload_n 1, 1) := by decide +kernel
theorem dX5_fromBytes_5 : decode cX5_fromBytes 5 = .ok (.sipush 255, 3) := by decide +kernel
theorem dX5_fromBytes_8 : decode cX5_fromBytes 8 = .ok (.iand, 1) := by decide +kernel
theorem dX5_fromBytes_9 : decode cX5_fromBytes 9 = .ok (.bipush 16, 2) := by decide +kernel
theorem dX5_fromBytes_11 : decode cX5_fromBytes 11 = .ok (.ishl, 1) := by decide +kernel
theorem dX5_fromBytes_12 : decode cX5_fromBytes 12 = .ok (.ior, 1) := by decide +kernel
theorem dX5_fromBytes_13 : decode cX5_fromBytes 13 = .ok (.iload_n 2, 1) := by decide +kernel
theorem dX5_fromBytes_14 : decode cX5_fromBytes 14 = .ok (.sipush 255, 3) := by decide +kernel
theorem dX5_fromBytes_17 : decode cX5_fromBytes 17 = .ok (.iand, 1) := by decide +kernel
theorem dX5_fromBytes_18 : decode cX5_fromBytes 18 = .ok (.bipush 8, 2) := by decide +kernel
theorem dX5_fromBytes_20 : decode cX5_fromBytes 20 = .ok (.ishl, 1) := by decide +kernel
theorem dX5_fromBytes_21 : decode cX5_fromBytes 21 = .ok (.ior, 1) := by decide +kernel
theorem dX5_fromBytes_22 : decode cX5_fromBytes 22 = .ok (.iload_n 3, 1) := by decide +kernel
theorem dX5_fromBytes_23 : decode cX5_fromBytes 23 = .ok (.sipush 255, 3) := by decide +kernel
theorem dX5_fromBytes_26 : decode cX5_fromBytes 26 = .ok (.iand, 1) := by decide +kernel
theorem dX5_fromBytes_27 : decode cX5_fromBytes 27 = .ok (.ior, 1) := by decide +kernel
theorem dX5_fromBytes_28 : decode cX5_fromBytes 28 = .ok (.ireturn, 1) := by decide +kernel
theorem q16 : (Jvm.Cond.initialized "Ints") ∈ lw_all := lw_g (lw_at lw_m1 10 rfl) rfl
theorem q202 : (Jvm.Cond.static ({ cls := "Ints", name := "fromBytes", desc := "(BBBB)I" } : Jvm.MethodName)) ∈ lw_all := lw_g (lw_at lw_m1 196 rfl) rfl
theorem q203 : (Jvm.Cond.code ({ cls := "Ints", name := "fromBytes", desc := "(BBBB)I" } : Jvm.MethodName) prog_6_method_1_code (4 : Nat) (Option.some Jvm.ClassFile.FieldType.int)) ∈ lw_all := lw_g (lw_at lw_m1 197 rfl) rfl
/-! HashCode -/
def RX6 : String := "HashCode"
abbrev cX6_fromInt : ByteArray := prog_3_method_3_code
def yX6_fromInt : MethodName := ⟨RX6, "fromInt", "(I)LHashCode;"⟩
theorem dX6_fromInt_0 : decode cX6_fromInt 0 = .ok (.new 7, 3) := by decide +kernel
theorem dX6_fromInt_3 : decode cX6_fromInt 3 = .ok (.dup, 1) := by decide +kernel
theorem dX6_fromInt_4 : decode cX6_fromInt 4 = .ok (.iload_n 0, 1) := by decide +kernel
theorem dX6_fromInt_5 : decode cX6_fromInt 5 = .ok (.invokespecial 9, 3) := by decide +kernel
theorem dX6_fromInt_8 : decode cX6_fromInt 8 = .ok (.areturn, 1) := by decide +kernel
abbrev cX6_init : ByteArray := prog_3_method_1_code
def yX6_init : MethodName := ⟨RX6, "<init>", "()V"⟩
theorem dX6_init_0 : decode cX6_init 0 = .ok (.aload_n 0, 1) := by decide +kernel
theorem dX6_init_1 : decode cX6_init 1 = .ok (.invokespecial 1, 3) := by decide +kernel
theorem dX6_init_4 : decode cX6_init 4 = .ok (.return_, 1) := by decide +kernel
theorem q19 : (Jvm.Cond.initialized "HashCode") ∈ lw_all := lw_g (lw_at lw_m1 13 rfl) rfl
theorem q309 : (Jvm.Cond.static ({ cls := "HashCode", name := "fromInt", desc := "(I)LHashCode;" } : Jvm.MethodName)) ∈ lw_all := lw_g (lw_at lw_m2 63 rfl) rfl
theorem q310 : (Jvm.Cond.code ({ cls := "HashCode", name := "fromInt", desc := "(I)LHashCode;" } : Jvm.MethodName) prog_3_method_3_code (1 : Nat) (Option.some (Jvm.ClassFile.FieldType.object "HashCode"))) ∈ lw_all := lw_g (lw_at lw_m2 64 rfl) rfl
theorem q311 : (Jvm.Cond.classLink "HashCode" (7 : Nat) "HashCode$IntHashCode") ∈ lw_all := lw_g (lw_at lw_m2 65 rfl) rfl
theorem q313 : (Jvm.Cond.methodLink "HashCode" (9 : Nat) ({ cls := "HashCode$IntHashCode", name := "<init>", desc := "(I)V" } : Jvm.MethodName)) ∈ lw_all := lw_g (lw_at lw_m2 67 rfl) rfl
theorem q317 : (Jvm.Cond.instanceMethod ({ cls := "HashCode", name := "<init>", desc := "()V" } : Jvm.MethodName)) ∈ lw_all := lw_g (lw_at lw_m2 71 rfl) rfl
theorem q318 : (Jvm.Cond.code ({ cls := "HashCode", name := "<init>", desc := "()V" } : Jvm.MethodName) prog_3_method_1_code (1 : Nat) (Option.none : Option Jvm.ClassFile.FieldType)) ∈ lw_all := lw_g (lw_at lw_m2 72 rfl) rfl
theorem q319 : (Jvm.Cond.methodLink "HashCode" (1 : Nat) ({ cls := "java/lang/Object", name := "<init>", desc := "()V" } : Jvm.MethodName)) ∈ lw_all := lw_g (lw_at lw_m2 73 rfl) rfl
theorem q325 : (Jvm.Cond.declares ({ cls := "HashCode", name := "asInt", desc := "()I" } : Jvm.MethodName)) ∈ lw_tbl := lw_at lw_m2 79 rfl
theorem q326 : (Jvm.Cond.sameMethod "HashCode" "HashCode" "asInt" "()I") ∈ lw_all := lw_g (lw_at lw_m2 80 rfl) rfl
/-! HashCode$IntHashCode -/
def RX7 : String := "HashCode$IntHashCode"
def TX7 : u_T := fun k => match k with
  | _ => ("HashCode$IntHashCode", "hash", "I", true)
def tyX7 : Nat → FieldType := fun k => match k with
  | _ => .int
abbrev wsX70 : List Cond := u_ws RX7 TX7 1
theorem nmX7 : ∀ a, a < 1 → ∀ b, b < 1 → a ≠ b → (TX7 a).2.1 ≠ (TX7 b).2.1 := by decide +kernel
theorem tyX7_ok : ∀ k, k < 1 → parseFieldDescriptor (TX7 k).2.2.1 = some (tyX7 k) := by decide +kernel
abbrev cX7_init : ByteArray := prog_4_method_1_code
def yX7_init : MethodName := ⟨RX7, "<init>", "(I)V"⟩
theorem dX7_init_0 : decode cX7_init 0 = .ok (.aload_n 0, 1) := by decide +kernel
theorem dX7_init_1 : decode cX7_init 1 = .ok (.invokespecial 1, 3) := by decide +kernel
theorem dX7_init_4 : decode cX7_init 4 = .ok (.aload_n 0, 1) := by decide +kernel
theorem dX7_init_5 : decode cX7_init 5 = .ok (.iload_n 1, 1) := by decide +kernel
theorem dX7_init_6 : decode cX7_init 6 = .ok (.putfield 7, 3) := by decide +kernel
theorem dX7_init_9 : decode cX7_init 9 = .ok (.return_, 1) := by decide +kernel
abbrev cX7_asInt : ByteArray := prog_4_method_2_code
def yX7_asInt : MethodName := ⟨RX7, "asInt", "()I"⟩
theorem dX7_asInt_0 : decode cX7_asInt 0 = .ok (.aload_n 0, 1) := by decide +kernel
theorem dX7_asInt_1 : decode cX7_asInt 1 = .ok (.getfield 7, 3) := by decide +kernel
theorem dX7_asInt_4 : decode cX7_asInt 4 = .ok (.ireturn, 1) := by decide +kernel
theorem q20 : (Jvm.Cond.initialized "HashCode$IntHashCode") ∈ lw_all := lw_g (lw_at lw_m1 14 rfl) rfl
theorem q312 : (Jvm.Cond.instantiable "HashCode$IntHashCode" (1 : Nat)) ∈ lw_all := lw_g (lw_at lw_m2 66 rfl) rfl
theorem q314 : (Jvm.Cond.instanceMethod ({ cls := "HashCode$IntHashCode", name := "<init>", desc := "(I)V" } : Jvm.MethodName)) ∈ lw_all := lw_g (lw_at lw_m2 68 rfl) rfl
theorem q315 : (Jvm.Cond.code ({ cls := "HashCode$IntHashCode", name := "<init>", desc := "(I)V" } : Jvm.MethodName) prog_4_method_1_code (2 : Nat) (Option.none : Option Jvm.ClassFile.FieldType)) ∈ lw_all := lw_g (lw_at lw_m2 69 rfl) rfl
theorem q316 : (Jvm.Cond.methodLink "HashCode$IntHashCode" (1 : Nat) ({ cls := "HashCode", name := "<init>", desc := "()V" } : Jvm.MethodName)) ∈ lw_all := lw_g (lw_at lw_m2 70 rfl) rfl
theorem q320 : (Jvm.Cond.fieldLink "HashCode$IntHashCode" (7 : Nat) "HashCode$IntHashCode" "hash" "I") ∈ lw_all := lw_g (lw_at lw_m2 74 rfl) rfl
theorem q321 : (Jvm.Cond.laysFinal "HashCode$IntHashCode" "HashCode$IntHashCode" "hash" "I") ∈ lw_all := lw_g (lw_at lw_m2 75 rfl) rfl
theorem q322 : (Jvm.Cond.soleField "HashCode$IntHashCode" "hash") ∈ lw_all := lw_g (lw_at lw_m2 76 rfl) rfl
theorem q323 : (Jvm.Cond.superclass "HashCode$IntHashCode" "HashCode") ∈ lw_all := lw_g (lw_at lw_m2 77 rfl) rfl
theorem q327 : (Jvm.Cond.selects "HashCode$IntHashCode" ({ cls := "HashCode", name := "asInt", desc := "()I" } : Jvm.MethodName) ({ cls := "HashCode$IntHashCode", name := "asInt", desc := "()I" } : Jvm.MethodName)) ∈ lw_all := lw_g (lw_at lw_m2 81 rfl) rfl
theorem q328 : (Jvm.Cond.instanceMethod ({ cls := "HashCode$IntHashCode", name := "asInt", desc := "()I" } : Jvm.MethodName)) ∈ lw_all := lw_g (lw_at lw_m2 82 rfl) rfl
theorem q329 : (Jvm.Cond.code ({ cls := "HashCode$IntHashCode", name := "asInt", desc := "()I" } : Jvm.MethodName) prog_4_method_2_code (1 : Nat) (Option.some Jvm.ClassFile.FieldType.int)) ∈ lw_all := lw_g (lw_at lw_m2 83 rfl) rfl
theorem in_X7 : ∀ w ∈ wsX70, w ∈ lw_all := lw_in wsX70 [321] (by decide +kernel) (by decide +kernel)
/-! AbstractHasher -/
def RX8 : String := "AbstractHasher"
abbrev cX8_init : ByteArray := prog_2_method_1_code
def yX8_init : MethodName := ⟨RX8, "<init>", "()V"⟩
theorem dX8_init_0 : decode cX8_init 0 = .ok (.aload_n 0, 1) := by decide +kernel
theorem dX8_init_1 : decode cX8_init 1 = .ok (.invokespecial 1, 3) := by decide +kernel
theorem dX8_init_4 : decode cX8_init 4 = .ok (.return_, 1) := by decide +kernel
theorem q22 : (Jvm.Cond.initialized "AbstractHasher") ∈ lw_all := lw_g (lw_at lw_m1 16 rfl) rfl
theorem q92 : (Jvm.Cond.instanceMethod ({ cls := "AbstractHasher", name := "<init>", desc := "()V" } : Jvm.MethodName)) ∈ lw_all := lw_g (lw_at lw_m1 86 rfl) rfl
theorem q93 : (Jvm.Cond.code ({ cls := "AbstractHasher", name := "<init>", desc := "()V" } : Jvm.MethodName) prog_2_method_1_code (1 : Nat) (Option.none : Option Jvm.ClassFile.FieldType)) ∈ lw_all := lw_g (lw_at lw_m1 87 rfl) rfl
theorem q94 : (Jvm.Cond.methodLink "AbstractHasher" (1 : Nat) ({ cls := "java/lang/Object", name := "<init>", desc := "()V" } : Jvm.MethodName)) ∈ lw_all := lw_g (lw_at lw_m1 88 rfl) rfl
theorem q121 : (Jvm.Cond.interfaceMethod "Hasher" "Hasher" "putBytes" "([BII)LHasher;") ∈ lw_tbl := lw_at lw_m1 115 rfl
theorem q122 : (Jvm.Cond.declares ({ cls := "Hasher", name := "putBytes", desc := "([BII)LHasher;" } : Jvm.MethodName)) ∈ lw_tbl := lw_at lw_m1 116 rfl
theorem q231 : (Jvm.Cond.interfaceMethod "Hasher" "Hasher" "putByte" "(B)LHasher;") ∈ lw_tbl := lw_at lw_m1 225 rfl
theorem q232 : (Jvm.Cond.declares ({ cls := "Hasher", name := "putByte", desc := "(B)LHasher;" } : Jvm.MethodName)) ∈ lw_tbl := lw_at lw_m1 226 rfl
theorem q242 : (Jvm.Cond.interfaceMethod "Hasher" "Hasher" "putInt" "(I)LHasher;") ∈ lw_tbl := lw_at lw_m1 236 rfl
theorem q243 : (Jvm.Cond.declares ({ cls := "Hasher", name := "putInt", desc := "(I)LHasher;" } : Jvm.MethodName)) ∈ lw_tbl := lw_at lw_m1 237 rfl
theorem q259 : (Jvm.Cond.interfaceMethod "Hasher" "Hasher" "putLong" "(J)LHasher;") ∈ lw_tbl := lw_at lw_m2 13 rfl
theorem q260 : (Jvm.Cond.declares ({ cls := "Hasher", name := "putLong", desc := "(J)LHasher;" } : Jvm.MethodName)) ∈ lw_tbl := lw_at lw_m2 14 rfl
theorem q272 : (Jvm.Cond.interfaceMethod "Hasher" "Hasher" "hash" "()LHashCode;") ∈ lw_tbl := lw_at lw_m2 26 rfl
theorem q273 : (Jvm.Cond.declares ({ cls := "Hasher", name := "hash", desc := "()LHashCode;" } : Jvm.MethodName)) ∈ lw_tbl := lw_at lw_m2 27 rfl
theorem q15 : (Jvm.Cond.initialized "IntsMethodsForWeb") ∈ lw_all := lw_g (lw_at lw_m1 9 rfl) rfl
theorem q45 : (Jvm.Cond.arrayClass Jvm.ClassFile.FieldType.byte) ∈ lw_all := lw_g (lw_at lw_m1 39 rfl) rfl
theorem q415 : (Jvm.Cond.arrayClass Jvm.ClassFile.FieldType.int) ∈ lw_all := lw_g (lw_at lw_m2 169 rfl) rfl
end
section
set_option maxRecDepth 100000
/-! Murmur3_32HashFunction -/
def RX3 : String := "Murmur3_32HashFunction"
def TX3 : u_T := fun k => match k with
  | 0 => ("Murmur3_32HashFunction", "seed", "I", true)
  | _ => ("Murmur3_32HashFunction", "supplementaryPlaneFix", "Z", true)
def tyX3 : Nat → FieldType := fun k => match k with
  | 0 => .int
  | _ => .boolean
abbrev wsX30 : List Cond := u_ws RX3 TX3 2
theorem nmX3 : ∀ a, a < 2 → ∀ b, b < 2 → a ≠ b → (TX3 a).2.1 ≠ (TX3 b).2.1 := by decide +kernel
theorem tyX3_ok : ∀ k, k < 2 → parseFieldDescriptor (TX3 k).2.2.1 = some (tyX3 k) := by decide +kernel
abbrev cX3_init : ByteArray := prog_9_method_1_code
def yX3_init : MethodName := ⟨RX3, "<init>", "(IZ)V"⟩
theorem dX3_init_0 : decode cX3_init 0 = .ok (.aload_n 0, 1) := by decide +kernel
theorem dX3_init_1 : decode cX3_init 1 = .ok (.invokespecial 1, 3) := by decide +kernel
theorem dX3_init_4 : decode cX3_init 4 = .ok (.aload_n 0, 1) := by decide +kernel
theorem dX3_init_5 : decode cX3_init 5 = .ok (.iload_n 1, 1) := by decide +kernel
theorem dX3_init_6 : decode cX3_init 6 = .ok (.putfield 7, 3) := by decide +kernel
theorem dX3_init_9 : decode cX3_init 9 = .ok (.aload_n 0, 1) := by decide +kernel
theorem dX3_init_10 : decode cX3_init 10 = .ok (.iload_n 2, 1) := by decide +kernel
theorem dX3_init_11 : decode cX3_init 11 = .ok (.putfield 13, 3) := by decide +kernel
theorem dX3_init_14 : decode cX3_init 14 = .ok (.return_, 1) := by decide +kernel
abbrev cX3_newHasher : ByteArray := prog_9_method_2_code
def yX3_newHasher : MethodName := ⟨RX3, "newHasher", "()LHasher;"⟩
theorem dX3_newHasher_0 : decode cX3_newHasher 0 = .ok (.new 17, 3) := by decide +kernel
theorem dX3_newHasher_3 : decode cX3_newHasher 3 = .ok (.dup, 1) := by decide +kernel
theorem dX3_newHasher_4 : decode cX3_newHasher 4 = .ok (.aload_n 0, 1) := by decide +kernel
theorem dX3_newHasher_5 : decode cX3_newHasher 5 = .ok (.getfield 7, 3) := by decide +kernel
theorem dX3_newHasher_8 : decode cX3_newHasher 8 = .ok (.invokespecial 19, 3) := by decide +kernel
theorem dX3_newHasher_11 : decode cX3_newHasher 11 = .ok (.areturn, 1) := by decide +kernel
abbrev cX3_getIntLittleEndian : ByteArray := prog_9_method_6_code
def yX3_getIntLittleEndian : MethodName := ⟨RX3, "getIntLittleEndian", "([BI)I"⟩
theorem dX3_getIntLittleEndian_0 : decode cX3_getIntLittleEndian 0 = .ok (.aload_n 0, 1) := by decide +kernel
theorem dX3_getIntLittleEndian_1 : decode cX3_getIntLittleEndian 1 = .ok (.iload_n 1, 1) := by decide +kernel
theorem dX3_getIntLittleEndian_2 : decode cX3_getIntLittleEndian 2 = .ok (.iconst 3, 1) := by decide +kernel
theorem dX3_getIntLittleEndian_3 : decode cX3_getIntLittleEndian 3 = .ok (.iadd, 1) := by decide +kernel
theorem dX3_getIntLittleEndian_4 : decode cX3_getIntLittleEndian 4 = .ok (.baload, 1) := by decide +kernel
theorem dX3_getIntLittleEndian_5 : decode cX3_getIntLittleEndian 5 = .ok (.aload_n 0, 1) := by decide +kernel
theorem dX3_getIntLittleEndian_6 : decode cX3_getIntLittleEndian 6 = .ok (.iload_n 1, 1) := by decide +kernel
theorem dX3_getIntLittleEndian_7 : decode cX3_getIntLittleEndian 7 = .ok (.iconst 2, 1) := by decide +kernel
theorem dX3_getIntLittleEndian_8 : decode cX3_getIntLittleEndian 8 = .ok (.iadd, 1) := by decide +kernel
theorem dX3_getIntLittleEndian_9 : decode cX3_getIntLittleEndian 9 = .ok (.baload, 1) := by decide +kernel
theorem dX3_getIntLittleEndian_10 : decode cX3_getIntLittleEndian 10 = .ok (.aload_n 0, 1) := by decide +kernel
theorem dX3_getIntLittleEndian_11 : decode cX3_getIntLittleEndian 11 = .ok (.iload_n 1, 1) := by decide +kernel
theorem dX3_getIntLittleEndian_12 : decode cX3_getIntLittleEndian 12 = .ok (.iconst 1, 1) := by decide +kernel
theorem dX3_getIntLittleEndian_13 : decode cX3_getIntLittleEndian 13 = .ok (.iadd, 1) := by decide +kernel
theorem dX3_getIntLittleEndian_14 : decode cX3_getIntLittleEndian 14 = .ok (.baload, 1) := by decide +kernel
theorem dX3_getIntLittleEndian_15 : decode cX3_getIntLittleEndian 15 = .ok (.aload_n 0, 1) := by decide +kernel
theorem dX3_getIntLittleEndian_16 : decode cX3_getIntLittleEndian 16 = .ok (.iload_n 1, 1) := by decide +kernel
theorem dX3_getIntLittleEndian_17 : decode cX3_getIntLittleEndian 17 = .ok (.baload, 1) := by decide +kernel
theorem dX3_getIntLittleEndian_18 : decode cX3_getIntLittleEndian 18 = .ok (.invokestatic 54, 3) := by decide +kernel
theorem dX3_getIntLittleEndian_21 : decode cX3_getIntLittleEndian 21 = .ok (.ireturn, 1) := by decide +kernel
abbrev cX3_mixK1 : ByteArray := prog_9_method_7_code
def yX3_mixK1 : MethodName := ⟨RX3, "mixK1", "(I)I"⟩
theorem dX3_mixK1_0 : decode cX3_mixK1 0 = .ok (.iload_n 0, 1) := by decide +kernel
theorem dX3_mixK1_1 : decode cX3_mixK1 1 = .ok (.ldc 58, 2) := by decide +kernel
theorem dX3_mixK1_3 : decode cX3_mixK1 3 = .ok (.imul, 1) := by decide +kernel
theorem dX3_mixK1_4 : decode cX3_mixK1 4 = .ok (.istore_n 0, 1) := by decide +kernel
theorem dX3_mixK1_5 : decode cX3_mixK1 5 = .ok (.iload_n 0, 1) := by decide +kernel
theorem dX3_mixK1_6 : decode cX3_mixK1 6 = .ok (.bipush 15, 2) := by decide +kernel
theorem dX3_mixK1_8 : decode cX3_mixK1 8 = .ok (.invokestatic 59, 3) := by decide +kernel
theorem dX3_mixK1_11 : decode cX3_mixK1 11 = .ok (.istore_n 0, 1) := by decide +kernel
theorem dX3_mixK1_12 : decode cX3_mixK1 12 = .ok (.iload_n 0, 1) := by decide +kernel
theorem dX3_mixK1_13 : decode cX3_mixK1 13 = .ok (.ldc 64, 2) := by decide +kernel
theorem dX3_mixK1_15 : decode cX3_mixK1 15 = .ok (.imul, 1) := by decide +kernel
theorem dX3_mixK1_16 : decode cX3_mixK1 16 = .ok (.istore_n 0, 1) := by decide +kernel
theorem dX3_mixK1_17 : decode cX3_mixK1 17 = .ok (.iload_n 0, 1) := by decide +kernel
theorem dX3_mixK1_18 : decode cX3_mixK1 18 = .ok (.ireturn, 1) := by decide +kernel
abbrev cX3_mixH1 : ByteArray := prog_9_method_8_code
def yX3_mixH1 : MethodName := ⟨RX3, "mixH1", "(II)I"⟩
theorem dX3_mixH1_0 : decode cX3_mixH1 0 = .ok (.iload_n 0, 1) := by decide +kernel
theorem dX3_mixH1_1 : decode cX3_mixH1 1 = .ok (.iload_n 1, 1) := by decide +kernel
theorem dX3_mixH1_2 : decode cX3_mixH1 2 = .ok (.ixor, 1) := by decide +kernel
theorem dX3_mixH1_3 : decode cX3_mixH1 3 = .ok (.istore_n 0, 1) := by decide +kernel
theorem dX3_mixH1_4 : decode cX3_mixH1 4 = .ok (.iload_n 0, 1) := by decide +kernel
theorem dX3_mixH1_5 : decode cX3_mixH1 5 = .ok (.bipush 13, 2) := by decide +kernel
theorem dX3_mixH1_7 : decode cX3_mixH1 7 = .ok (.invokestatic 59, 3) := by decide +kernel
theorem dX3_mixH1_10 : decode cX3_mixH1 10 = .ok (.istore_n 0, 1) := by decide +kernel
theorem dX3_mixH1_11 : decode cX3_mixH1 11 = .ok (.iload_n 0, 1) := by decide +kernel
theorem dX3_mixH1_12 : decode cX3_mixH1 12 = .ok (.iconst 5, 1) := by decide +kernel
theorem dX3_mixH1_13 : decode cX3_mixH1 13 = .ok (.imul, 1) := by decide +kernel
theorem dX3_mixH1_14 : decode cX3_mixH1 14 = .ok (.ldc 65, 2) := by decide +kernel
theorem dX3_mixH1_16 : decode cX3_mixH1 16 = .ok (.iadd, 1) := by decide +kernel
theorem dX3_mixH1_17 : decode cX3_mixH1 17 = .ok (.istore_n 0, 1) := by decide +kernel
theorem dX3_mixH1_18 : decode cX3_mixH1 18 = .ok (.iload_n 0, 1) := by decide +kernel
theorem dX3_mixH1_19 : decode cX3_mixH1 19 = .ok (.ireturn, 1) := by decide +kernel
abbrev cX3_fmix : ByteArray := prog_9_method_9_code
def yX3_fmix : MethodName := ⟨RX3, "fmix", "(II)LHashCode;"⟩
theorem dX3_fmix_0 : decode cX3_fmix 0 = .ok (.iload_n 0, 1) := by decide +kernel
theorem dX3_fmix_1 : decode cX3_fmix 1 = .ok (.iload_n 1, 1) := by decide +kernel
theorem dX3_fmix_2 : decode cX3_fmix 2 = .ok (.ixor, 1) := by decide +kernel
theorem dX3_fmix_3 : decode cX3_fmix 3 = .ok (.istore_n 0, 1) := by decide +kernel
theorem dX3_fmix_4 : decode cX3_fmix 4 = .ok (.iload_n 0, 1) := by decide +kernel
theorem dX3_fmix_5 : decode cX3_fmix 5 = .ok (.iload_n 0, 1) := by decide +kernel
theorem dX3_fmix_6 : decode cX3_fmix 6 = .ok (.bipush 16, 2) := by decide +kernel
theorem dX3_fmix_8 : decode cX3_fmix 8 = .ok (.iushr, 1) := by decide +kernel
theorem dX3_fmix_9 : decode cX3_fmix 9 = .ok (.ixor, 1) := by decide +kernel
theorem dX3_fmix_10 : decode cX3_fmix 10 = .ok (.istore_n 0, 1) := by decide +kernel
theorem dX3_fmix_11 : decode cX3_fmix 11 = .ok (.iload_n 0, 1) := by decide +kernel
theorem dX3_fmix_12 : decode cX3_fmix 12 = .ok (.ldc 66, 2) := by decide +kernel
theorem dX3_fmix_14 : decode cX3_fmix 14 = .ok (.imul, 1) := by decide +kernel
theorem dX3_fmix_15 : decode cX3_fmix 15 = .ok (.istore_n 0, 1) := by decide +kernel
theorem dX3_fmix_16 : decode cX3_fmix 16 = .ok (.iload_n 0, 1) := by decide +kernel
theorem dX3_fmix_17 : decode cX3_fmix 17 = .ok (.iload_n 0, 1) := by decide +kernel
theorem dX3_fmix_18 : decode cX3_fmix 18 = .ok (.bipush 13, 2) := by decide +kernel
theorem dX3_fmix_20 : decode cX3_fmix 20 = .ok (.iushr, 1) := by decide +kernel
theorem dX3_fmix_21 : decode cX3_fmix 21 = .ok (.ixor, 1) := by decide +kernel
theorem dX3_fmix_22 : decode cX3_fmix 22 = .ok (.istore_n 0, 1) := by decide +kernel
theorem dX3_fmix_23 : decode cX3_fmix 23 = .ok (.iload_n 0, 1) := by decide +kernel
theorem dX3_fmix_24 : decode cX3_fmix 24 = .ok (.ldc 67, 2) := by decide +kernel
theorem dX3_fmix_26 : decode cX3_fmix 26 = .ok (.imul, 1) := by decide +kernel
theorem dX3_fmix_27 : decode cX3_fmix 27 = .ok (.istore_n 0, 1) := by decide +kernel
theorem dX3_fmix_28 : decode cX3_fmix 28 = .ok (.iload_n 0, 1) := by decide +kernel
theorem dX3_fmix_29 : decode cX3_fmix 29 = .ok (.iload_n 0, 1) := by decide +kernel
theorem dX3_fmix_30 : decode cX3_fmix 30 = .ok (.bipush 16, 2) := by decide +kernel
theorem dX3_fmix_32 : decode cX3_fmix 32 = .ok (.iushr, 1) := by decide +kernel
theorem dX3_fmix_33 : decode cX3_fmix 33 = .ok (.ixor, 1) := by decide +kernel
theorem dX3_fmix_34 : decode cX3_fmix 34 = .ok (.istore_n 0, 1) := by decide +kernel
theorem dX3_fmix_35 : decode cX3_fmix 35 = .ok (.iload_n 0, 1) := by decide +kernel
theorem dX3_fmix_36 : decode cX3_fmix 36 = .ok (.invokestatic 68, 3) := by decide +kernel
theorem dX3_fmix_39 : decode cX3_fmix 39 = .ok (.areturn, 1) := by decide +kernel
abbrev cX3_hashBytes : ByteArray := prog_9_method_5_code
def yX3_hashBytes : MethodName := ⟨RX3, "hashBytes", "([BII)LHashCode;"⟩
theorem dX3_hashBytes_0 : decode cX3_hashBytes 0 = .ok (.iload_n 2, 1) := by decide +kernel
theorem dX3_hashBytes_1 : decode cX3_hashBytes 1 = .ok (.iload_n 2, 1) := by decide +kernel
theorem dX3_hashBytes_2 : decode cX3_hashBytes 2 = .ok (.iload_n 3, 1) := by decide +kernel
theorem dX3_hashBytes_3 : decode cX3_hashBytes 3 = .ok (.iadd, 1) := by decide +kernel
theorem dX3_hashBytes_4 : decode cX3_hashBytes 4 = .ok (.aload_n 1, 1) := by decide +kernel
theorem dX3_hashBytes_5 : decode cX3_hashBytes 5 = .ok (.arraylength, 1) := by decide +kernel
theorem dX3_hashBytes_6 : decode cX3_hashBytes 6 = .ok (.invokestatic 38, 3) := by decide +kernel
theorem dX3_hashBytes_9 : decode cX3_hashBytes 9 = .ok (.aload_n 0, 1) := by decide +kernel
theorem dX3_hashBytes_10 : decode cX3_hashBytes 10 = .ok (.getfield 7, 3) := by decide +kernel
theorem dX3_hashBytes_13 : decode cX3_hashBytes 13 = .ok (.istore 4, 2) := by decide +kernel
theorem dX3_hashBytes_15 : decode cX3_hashBytes 15 = .ok (.iconst 0, 1) := by decide +kernel
theorem dX3_hashBytes_16 : decode cX3_hashBytes 16 = .ok (.istore 5, 2) := by decide +kernel
theorem dX3_hashBytes_18 : decode cX3_hashBytes 18 = .ok (.iload 5, 2) := by decide +kernel
theorem dX3_hashBytes_20 : decode cX3_hashBytes 20 = .ok (.iconst 4, 1) := by decide +kernel
theorem dX3_hashBytes_21 : decode cX3_hashBytes 21 = .ok (.iadd, 1) := by decide +kernel
theorem dX3_hashBytes_22 : decode cX3_hashBytes 22 = .ok (.iload_n 3, 1) := by decide +kernel
theorem dX3_hashBytes_23 : decode cX3_hashBytes 23 = .ok (.if_icmp .gt 31, 3) := by decide +kernel
theorem dX3_hashBytes_26 : decode cX3_hashBytes 26 = .ok (.aload_n 1, 1) := by decide +kernel
theorem dX3_hashBytes_27 : decode cX3_hashBytes 27 = .ok (.iload_n 2, 1) := by decide +kernel
theorem dX3_hashBytes_28 : decode cX3_hashBytes 28 = .ok (.iload 5, 2) := by decide +kernel
theorem dX3_hashBytes_30 : decode cX3_hashBytes 30 = .ok (.iadd, 1) := by decide +kernel
theorem dX3_hashBytes_31 : decode cX3_hashBytes 31 = .ok (.invokestatic 44, 3) := by decide +kernel
theorem dX3_hashBytes_34 : decode cX3_hashBytes 34 = .ok (.invokestatic 22, 3) := by decide +kernel
theorem dX3_hashBytes_37 : decode cX3_hashBytes 37 = .ok (.istore 6, 2) := by decide +kernel
theorem dX3_hashBytes_39 : decode cX3_hashBytes 39 = .ok (.iload 4, 2) := by decide +kernel
theorem dX3_hashBytes_41 : decode cX3_hashBytes 41 = .ok (.iload 6, 2) := by decide +kernel
theorem dX3_hashBytes_43 : decode cX3_hashBytes 43 = .ok (.invokestatic 26, 3) := by decide +kernel
theorem dX3_hashBytes_46 : decode cX3_hashBytes 46 = .ok (.istore 4, 2) := by decide +kernel
theorem dX3_hashBytes_48 : decode cX3_hashBytes 48 = .ok (.iinc 5 4, 3) := by decide +kernel
theorem dX3_hashBytes_51 : decode cX3_hashBytes 51 = .ok (.goto (-33), 3) := by decide +kernel
theorem dX3_hashBytes_54 : decode cX3_hashBytes 54 = .ok (.iconst 0, 1) := by decide +kernel
theorem dX3_hashBytes_55 : decode cX3_hashBytes 55 = .ok (.istore 6, 2) := by decide +kernel
theorem dX3_hashBytes_57 : decode cX3_hashBytes 57 = .ok (.iconst 0, 1) := by decide +kernel
theorem dX3_hashBytes_58 : decode cX3_hashBytes 58 = .ok (.istore 7, 2) := by decide +kernel
theorem dX3_hashBytes_60 : decode cX3_hashBytes 60 = .ok (.iload 5, 2) := by decide +kernel
theorem dX3_hashBytes_62 : decode cX3_hashBytes 62 = .ok (.iload_n 3, 1) := by decide +kernel
theorem dX3_hashBytes_63 : decode cX3_hashBytes 63 = .ok (.if_icmp .ge 29, 3) := by decide +kernel
theorem dX3_hashBytes_66 : decode cX3_hashBytes 66 = .ok (.iload 6, 2) := by decide +kernel
theorem dX3_hashBytes_68 : decode cX3_hashBytes 68 = .ok (.aload_n 1, 1) := by decide +kernel
theorem dX3_hashBytes_69 : decode cX3_hashBytes 69 = .ok (.iload_n 2, 1) := by decide +kernel
theorem dX3_hashBytes_70 : decode cX3_hashBytes 70 = .ok (.iload 5, 2) := by decide +kernel
theorem dX3_hashBytes_72 : decode cX3_hashBytes 72 = .ok (.iadd, 1) := by decide +kernel
theorem dX3_hashBytes_73 : decode cX3_hashBytes 73 = .ok (.baload, 1) := by decide +kernel
theorem dX3_hashBytes_74 : decode cX3_hashBytes 74 = .ok (.invokestatic 48, 3) := by decide +kernel
theorem dX3_hashBytes_77 : decode cX3_hashBytes 77 = .ok (.iload 7, 2) := by decide +kernel
theorem dX3_hashBytes_79 : decode cX3_hashBytes 79 = .ok (.ishl, 1) := by decide +kernel
theorem dX3_hashBytes_80 : decode cX3_hashBytes 80 = .ok (.ixor, 1) := by decide +kernel
theorem dX3_hashBytes_81 : decode cX3_hashBytes 81 = .ok (.istore 6, 2) := by decide +kernel
theorem dX3_hashBytes_83 : decode cX3_hashBytes 83 = .ok (.iinc 5 1, 3) := by decide +kernel
theorem dX3_hashBytes_86 : decode cX3_hashBytes 86 = .ok (.iinc 7 8, 3) := by decide +kernel
theorem dX3_hashBytes_89 : decode cX3_hashBytes 89 = .ok (.goto (-29), 3) := by decide +kernel
theorem dX3_hashBytes_92 : decode cX3_hashBytes 92 = .ok (.iload 4, 2) := by decide +kernel
theorem dX3_hashBytes_94 : decode cX3_hashBytes 94 = .ok (.iload 6, 2) := by decide +kernel
theorem dX3_hashBytes_96 : decode cX3_hashBytes 96 = .ok (.invokestatic 22, 3) := by decide +kernel
theorem dX3_hashBytes_99 : decode cX3_hashBytes 99 = .ok (.ixor, 1) := by decide +kernel
theorem dX3_hashBytes_100 : decode cX3_hashBytes 100 = .ok (.istore 4, 2) := by decide +kernel
theorem dX3_hashBytes_102 : decode cX3_hashBytes 102 = .ok (.iload 4, 2) := by decide +kernel
theorem dX3_hashBytes_104 : decode cX3_hashBytes 104 = .ok (.iload_n 3, 1) := by decide +kernel
theorem dX3_hashBytes_105 : decode cX3_hashBytes 105 = .ok (.invokestatic 32, 3) := by decide +kernel
theorem dX3_hashBytes_108 : decode cX3_hashBytes 108 = .ok (.areturn, 1) := by decide +kernel
abbrev cX3_hashInt : ByteArray := prog_9_method_3_code
def yX3_hashInt : MethodName := ⟨RX3, "hashInt", "(I)LHashCode;"⟩
theorem dX3_hashInt_0 : decode cX3_hashInt 0 = .ok (.iload_n 1, 1) := by decide +kernel
theorem dX3_hashInt_1 : decode cX3_hashInt 1 = .ok (.invokestatic 22, 3) := by decide +kernel
theorem dX3_hashInt_4 : decode cX3_hashInt 4 = .ok (.istore_n 2, 1) := by decide +kernel
theorem dX3_hashInt_5 : decode cX3_hashInt 5 = .ok (.aload_n 0, 1) := by decide +kernel
theorem dX3_hashInt_6 : decode cX3_hashInt 6 = .ok (.getfield 7, 3) := by decide +kernel
theorem dX3_hashInt_9 : decode cX3_hashInt 9 = .ok (.iload_n 2, 1) := by decide +kernel
theorem dX3_hashInt_10 : decode cX3_hashInt 10 = .ok (.invokestatic 26, 3) := by decide +kernel
theorem dX3_hashInt_13 : decode cX3_hashInt 13 = .ok (.istore_n 3, 1) := by decide +kernel
theorem dX3_hashInt_14 : decode cX3_hashInt 14 = .ok (.iload_n 3, 1) := by decide +kernel
theorem dX3_hashInt_15 : decode cX3_hashInt 15 = .ok (.iconst 4, 1) := by decide +kernel
theorem dX3_hashInt_16 : decode cX3_hashInt 16 = .ok (.invokestatic 32, 3) := by decide +kernel
theorem dX3_hashInt_19 : decode cX3_hashInt 19 = .ok (.areturn, 1) := by decide +kernel
abbrev cX3_hashLong : ByteArray := prog_9_method_4_code
def yX3_hashLong : MethodName := ⟨RX3, "hashLong", "(J)LHashCode;"⟩
theorem dX3_hashLong_0 : decode cX3_hashLong 0 = .ok (.lload_n 1, 1) := by decide +kernel
theorem dX3_hashLong_1 : decode cX3_hashLong 1 = .ok (.l2i, 1) := by decide +kernel
theorem dX3_hashLong_2 : decode cX3_hashLong 2 = .ok (.istore_n 3, 1) := by decide +kernel
theorem dX3_hashLong_3 : decode cX3_hashLong 3 = .ok (.lload_n 1, 1) := by decide +kernel
theorem dX3_hashLong_4 : decode cX3_hashLong 4 = .ok (.bipush 32, 2) := by decide +kernel
theorem dX3_hashLong_6 : decode cX3_hashLong 6 = .ok (.lushr, 1) := by decide +kernel
theorem dX3_hashLong_7 : decode cX3_hashLong 7 = .ok (.l2i, 1) := by decide +kernel
theorem dX3_hashLong_8 : decode cX3_hashLong 8 = .ok (.istore 4, 2) := by decide +kernel
theorem dX3_hashLong_10 : decode cX3_hashLong 10 = .ok (.iload_n 3, 1) := by decide +kernel
theorem dX3_hashLong_11 : decode cX3_hashLong 11 = .ok (.invokestatic 22, 3) := by decide +kernel
theorem dX3_hashLong_14 : decode cX3_hashLong 14 = .ok (.istore 5, 2) := by decide +kernel
theorem dX3_hashLong_16 : decode cX3_hashLong 16 = .ok (.aload_n 0, 1) := by decide +kernel
theorem dX3_hashLong_17 : decode cX3_hashLong 17 = .ok (.getfield 7, 3) := by decide +kernel
theorem dX3_hashLong_20 : decode cX3_hashLong 20 = .ok (.iload 5, 2) := by decide +kernel
theorem dX3_hashLong_22 : decode cX3_hashLong 22 = .ok (.invokestatic 26, 3) := by decide +kernel
theorem dX3_hashLong_25 : decode cX3_hashLong 25 = .ok (.istore 6, 2) := by decide +kernel
theorem dX3_hashLong_27 : decode cX3_hashLong 27 = .ok (.iload 4, 2) := by decide +kernel
theorem dX3_hashLong_29 : decode cX3_hashLong 29 = .ok (.invokestatic 22, 3) := by decide +kernel
theorem dX3_hashLong_32 : decode cX3_hashLong 32 = .ok (.istore 5, 2) := by decide +kernel
theorem dX3_hashLong_34 : decode cX3_hashLong 34 = .ok (.iload 6, 2) := by decide +kernel
theorem dX3_hashLong_36 : decode cX3_hashLong 36 = .ok (.iload 5, 2) := by decide +kernel
theorem dX3_hashLong_38 : decode cX3_hashLong 38 = .ok (.invokestatic 26, 3) := by decide +kernel
theorem dX3_hashLong_41 : decode cX3_hashLong 41 = .ok (.istore 6, 2) := by decide +kernel
theorem dX3_hashLong_43 : decode cX3_hashLong 43 = .ok (.iload 6, 2) := by decide +kernel
theorem dX3_hashLong_45 : decode cX3_hashLong 45 = .ok (.bipush 8, 2) := by decide +kernel
theorem dX3_hashLong_47 : decode cX3_hashLong 47 = .ok (.invokestatic 32, 3) := by decide +kernel
theorem dX3_hashLong_50 : decode cX3_hashLong 50 = .ok (.areturn, 1) := by decide +kernel
theorem q9 : (Jvm.Cond.initialized "Murmur3_32HashFunction") ∈ lw_all := lw_g (lw_at lw_m1 3 rfl) rfl
theorem q67 : (Jvm.Cond.instantiable "Murmur3_32HashFunction" (2 : Nat)) ∈ lw_all := lw_g (lw_at lw_m1 61 rfl) rfl
theorem q69 : (Jvm.Cond.instanceMethod ({ cls := "Murmur3_32HashFunction", name := "<init>", desc := "(IZ)V" } : Jvm.MethodName)) ∈ lw_all := lw_g (lw_at lw_m1 63 rfl) rfl
theorem q70 : (Jvm.Cond.code ({ cls := "Murmur3_32HashFunction", name := "<init>", desc := "(IZ)V" } : Jvm.MethodName) prog_9_method_1_code (3 : Nat) (Option.none : Option Jvm.ClassFile.FieldType)) ∈ lw_all := lw_g (lw_at lw_m1 64 rfl) rfl
theorem q71 : (Jvm.Cond.methodLink "Murmur3_32HashFunction" (1 : Nat) ({ cls := "AbstractHashFunction", name := "<init>", desc := "()V" } : Jvm.MethodName)) ∈ lw_all := lw_g (lw_at lw_m1 65 rfl) rfl
theorem q75 : (Jvm.Cond.fieldLink "Murmur3_32HashFunction" (7 : Nat) "Murmur3_32HashFunction" "seed" "I") ∈ lw_all := lw_g (lw_at lw_m1 69 rfl) rfl
theorem q76 : (Jvm.Cond.fieldLink "Murmur3_32HashFunction" (13 : Nat) "Murmur3_32HashFunction" "supplementaryPlaneFix" "Z") ∈ lw_all := lw_g (lw_at lw_m1 70 rfl) rfl
theorem q77 : (Jvm.Cond.laysFinal "Murmur3_32HashFunction" "Murmur3_32HashFunction" "seed" "I") ∈ lw_all := lw_g (lw_at lw_m1 71 rfl) rfl
theorem q78 : (Jvm.Cond.soleField "Murmur3_32HashFunction" "seed") ∈ lw_all := lw_g (lw_at lw_m1 72 rfl) rfl
theorem q79 : (Jvm.Cond.laysFinal "Murmur3_32HashFunction" "Murmur3_32HashFunction" "supplementaryPlaneFix" "Z") ∈ lw_all := lw_g (lw_at lw_m1 73 rfl) rfl
theorem q80 : (Jvm.Cond.soleField "Murmur3_32HashFunction" "supplementaryPlaneFix") ∈ lw_all := lw_g (lw_at lw_m1 74 rfl) rfl
theorem q81 : (Jvm.Cond.superclass "Murmur3_32HashFunction" "AbstractHashFunction") ∈ lw_all := lw_g (lw_at lw_m1 75 rfl) rfl
theorem q83 : (Jvm.Cond.instanceMethod ({ cls := "Murmur3_32HashFunction", name := "newHasher", desc := "()LHasher;" } : Jvm.MethodName)) ∈ lw_all := lw_g (lw_at lw_m1 77 rfl) rfl
theorem q84 : (Jvm.Cond.selects "Murmur3_32HashFunction" ({ cls := "Murmur3_32HashFunction", name := "newHasher", desc := "()LHasher;" } : Jvm.MethodName) ({ cls := "Murmur3_32HashFunction", name := "newHasher", desc := "()LHasher;" } : Jvm.MethodName)) ∈ lw_all := lw_g (lw_at lw_m1 78 rfl) rfl
theorem q85 : (Jvm.Cond.code ({ cls := "Murmur3_32HashFunction", name := "newHasher", desc := "()LHasher;" } : Jvm.MethodName) prog_9_method_2_code (1 : Nat) (Option.some (Jvm.ClassFile.FieldType.object "Hasher"))) ∈ lw_all := lw_g (lw_at lw_m1 79 rfl) rfl
theorem q86 : (Jvm.Cond.classLink "Murmur3_32HashFunction" (17 : Nat) "Murmur3_32HashFunction$Murmur3_32Hasher") ∈ lw_all := lw_g (lw_at lw_m1 80 rfl) rfl
theorem q88 : (Jvm.Cond.methodLink "Murmur3_32HashFunction" (19 : Nat) ({ cls := "Murmur3_32HashFunction$Murmur3_32Hasher", name := "<init>", desc := "(I)V" } : Jvm.MethodName)) ∈ lw_all := lw_g (lw_at lw_m1 82 rfl) rfl
theorem q199 : (Jvm.Cond.static ({ cls := "Murmur3_32HashFunction", name := "getIntLittleEndian", desc := "([BI)I" } : Jvm.MethodName)) ∈ lw_all := lw_g (lw_at lw_m1 193 rfl) rfl
theorem q200 : (Jvm.Cond.code ({ cls := "Murmur3_32HashFunction", name := "getIntLittleEndian", desc := "([BI)I" } : Jvm.MethodName) prog_9_method_6_code (2 : Nat) (Option.some Jvm.ClassFile.FieldType.int)) ∈ lw_all := lw_g (lw_at lw_m1 194 rfl) rfl
theorem q201 : (Jvm.Cond.methodLink "Murmur3_32HashFunction" (54 : Nat) ({ cls := "Ints", name := "fromBytes", desc := "(BBBB)I" } : Jvm.MethodName)) ∈ lw_all := lw_g (lw_at lw_m1 195 rfl) rfl
theorem q210 : (Jvm.Cond.static ({ cls := "Murmur3_32HashFunction", name := "mixK1", desc := "(I)I" } : Jvm.MethodName)) ∈ lw_all := lw_g (lw_at lw_m1 204 rfl) rfl
theorem q211 : (Jvm.Cond.code ({ cls := "Murmur3_32HashFunction", name := "mixK1", desc := "(I)I" } : Jvm.MethodName) prog_9_method_7_code (1 : Nat) (Option.some Jvm.ClassFile.FieldType.int)) ∈ lw_all := lw_g (lw_at lw_m1 205 rfl) rfl
theorem q212 : (Jvm.Cond.constant "Murmur3_32HashFunction" (58 : Nat) (-862048943 : Int32)) ∈ lw_all := lw_g (lw_at lw_m1 206 rfl) rfl
theorem q213 : (Jvm.Cond.methodLink "Murmur3_32HashFunction" (59 : Nat) ({ cls := "java/lang/Integer", name := "rotateLeft", desc := "(II)I" } : Jvm.MethodName)) ∈ lw_all := lw_g (lw_at lw_m1 207 rfl) rfl
theorem q216 : (Jvm.Cond.constant "Murmur3_32HashFunction" (64 : Nat) (461845907 : Int32)) ∈ lw_all := lw_g (lw_at lw_m1 210 rfl) rfl
theorem q218 : (Jvm.Cond.static ({ cls := "Murmur3_32HashFunction", name := "mixH1", desc := "(II)I" } : Jvm.MethodName)) ∈ lw_all := lw_g (lw_at lw_m1 212 rfl) rfl
theorem q219 : (Jvm.Cond.code ({ cls := "Murmur3_32HashFunction", name := "mixH1", desc := "(II)I" } : Jvm.MethodName) prog_9_method_8_code (2 : Nat) (Option.some Jvm.ClassFile.FieldType.int)) ∈ lw_all := lw_g (lw_at lw_m1 213 rfl) rfl
theorem q220 : (Jvm.Cond.constant "Murmur3_32HashFunction" (65 : Nat) (-430675100 : Int32)) ∈ lw_all := lw_g (lw_at lw_m1 214 rfl) rfl
theorem q304 : (Jvm.Cond.static ({ cls := "Murmur3_32HashFunction", name := "fmix", desc := "(II)LHashCode;" } : Jvm.MethodName)) ∈ lw_all := lw_g (lw_at lw_m2 58 rfl) rfl
theorem q305 : (Jvm.Cond.code ({ cls := "Murmur3_32HashFunction", name := "fmix", desc := "(II)LHashCode;" } : Jvm.MethodName) prog_9_method_9_code (2 : Nat) (Option.some (Jvm.ClassFile.FieldType.object "HashCode"))) ∈ lw_all := lw_g (lw_at lw_m2 59 rfl) rfl
theorem q306 : (Jvm.Cond.constant "Murmur3_32HashFunction" (66 : Nat) (-2048144789 : Int32)) ∈ lw_all := lw_g (lw_at lw_m2 60 rfl) rfl
theorem q307 : (Jvm.Cond.constant "Murmur3_32HashFunction" (67 : Nat) (-1028477387 : Int32)) ∈ lw_all := lw_g (lw_at lw_m2 61 rfl) rfl
theorem q308 : (Jvm.Cond.methodLink "Murmur3_32HashFunction" (68 : Nat) ({ cls := "HashCode", name := "fromInt", desc := "(I)LHashCode;" } : Jvm.MethodName)) ∈ lw_all := lw_g (lw_at lw_m2 62 rfl) rfl
theorem q335 : (Jvm.Cond.instanceMethod ({ cls := "Murmur3_32HashFunction", name := "hashBytes", desc := "([BII)LHashCode;" } : Jvm.MethodName)) ∈ lw_all := lw_g (lw_at lw_m2 89 rfl) rfl
theorem q336 : (Jvm.Cond.selects "Murmur3_32HashFunction" ({ cls := "Murmur3_32HashFunction", name := "hashBytes", desc := "([BII)LHashCode;" } : Jvm.MethodName) ({ cls := "Murmur3_32HashFunction", name := "hashBytes", desc := "([BII)LHashCode;" } : Jvm.MethodName)) ∈ lw_all := lw_g (lw_at lw_m2 90 rfl) rfl
theorem q337 : (Jvm.Cond.code ({ cls := "Murmur3_32HashFunction", name := "hashBytes", desc := "([BII)LHashCode;" } : Jvm.MethodName) prog_9_method_5_code (8 : Nat) (Option.some (Jvm.ClassFile.FieldType.object "HashCode"))) ∈ lw_all := lw_g (lw_at lw_m2 91 rfl) rfl
theorem q338 : (Jvm.Cond.methodLink "Murmur3_32HashFunction" (38 : Nat) ({ cls := "Preconditions", name := "checkPositionIndexes", desc := "(III)V" } : Jvm.MethodName)) ∈ lw_all := lw_g (lw_at lw_m2 92 rfl) rfl
theorem q339 : (Jvm.Cond.methodLink "Murmur3_32HashFunction" (44 : Nat) ({ cls := "Murmur3_32HashFunction", name := "getIntLittleEndian", desc := "([BI)I" } : Jvm.MethodName)) ∈ lw_all := lw_g (lw_at lw_m2 93 rfl) rfl
theorem q340 : (Jvm.Cond.methodLink "Murmur3_32HashFunction" (22 : Nat) ({ cls := "Murmur3_32HashFunction", name := "mixK1", desc := "(I)I" } : Jvm.MethodName)) ∈ lw_all := lw_g (lw_at lw_m2 94 rfl) rfl
theorem q341 : (Jvm.Cond.methodLink "Murmur3_32HashFunction" (26 : Nat) ({ cls := "Murmur3_32HashFunction", name := "mixH1", desc := "(II)I" } : Jvm.MethodName)) ∈ lw_all := lw_g (lw_at lw_m2 95 rfl) rfl
theorem q342 : (Jvm.Cond.methodLink "Murmur3_32HashFunction" (48 : Nat) ({ cls := "java/lang/Byte", name := "toUnsignedInt", desc := "(B)I" } : Jvm.MethodName)) ∈ lw_all := lw_g (lw_at lw_m2 96 rfl) rfl
theorem q345 : (Jvm.Cond.methodLink "Murmur3_32HashFunction" (32 : Nat) ({ cls := "Murmur3_32HashFunction", name := "fmix", desc := "(II)LHashCode;" } : Jvm.MethodName)) ∈ lw_all := lw_g (lw_at lw_m2 99 rfl) rfl
theorem q351 : (Jvm.Cond.instanceMethod ({ cls := "Murmur3_32HashFunction", name := "hashInt", desc := "(I)LHashCode;" } : Jvm.MethodName)) ∈ lw_all := lw_g (lw_at lw_m2 105 rfl) rfl
theorem q352 : (Jvm.Cond.selects "Murmur3_32HashFunction" ({ cls := "Murmur3_32HashFunction", name := "hashInt", desc := "(I)LHashCode;" } : Jvm.MethodName) ({ cls := "Murmur3_32HashFunction", name := "hashInt", desc := "(I)LHashCode;" } : Jvm.MethodName)) ∈ lw_all := lw_g (lw_at lw_m2 106 rfl) rfl
theorem q353 : (Jvm.Cond.code ({ cls := "Murmur3_32HashFunction", name := "hashInt", desc := "(I)LHashCode;" } : Jvm.MethodName) prog_9_method_3_code (4 : Nat) (Option.some (Jvm.ClassFile.FieldType.object "HashCode"))) ∈ lw_all := lw_g (lw_at lw_m2 107 rfl) rfl
theorem q359 : (Jvm.Cond.instanceMethod ({ cls := "Murmur3_32HashFunction", name := "hashLong", desc := "(J)LHashCode;" } : Jvm.MethodName)) ∈ lw_all := lw_g (lw_at lw_m2 113 rfl) rfl
theorem q360 : (Jvm.Cond.selects "Murmur3_32HashFunction" ({ cls := "Murmur3_32HashFunction", name := "hashLong", desc := "(J)LHashCode;" } : Jvm.MethodName) ({ cls := "Murmur3_32HashFunction", name := "hashLong", desc := "(J)LHashCode;" } : Jvm.MethodName)) ∈ lw_all := lw_g (lw_at lw_m2 114 rfl) rfl
theorem q361 : (Jvm.Cond.code ({ cls := "Murmur3_32HashFunction", name := "hashLong", desc := "(J)LHashCode;" } : Jvm.MethodName) prog_9_method_4_code (7 : Nat) (Option.some (Jvm.ClassFile.FieldType.object "HashCode"))) ∈ lw_all := lw_g (lw_at lw_m2 115 rfl) rfl
theorem in_X3 : ∀ w ∈ wsX30, w ∈ lw_all := lw_in wsX30 [77, 79] (by decide +kernel) (by decide +kernel)
/-! Murmur3_32HashFunction$Murmur3_32Hasher -/
def RX9 : String := "Murmur3_32HashFunction$Murmur3_32Hasher"
def TX9 : u_T := fun k => match k with
  | 0 => ("Murmur3_32HashFunction$Murmur3_32Hasher", "h1", "I", false)
  | 1 => ("Murmur3_32HashFunction$Murmur3_32Hasher", "buffer", "J", false)
  | 2 => ("Murmur3_32HashFunction$Murmur3_32Hasher", "shift", "I", false)
  | 3 => ("Murmur3_32HashFunction$Murmur3_32Hasher", "length", "I", false)
  | _ => ("Murmur3_32HashFunction$Murmur3_32Hasher", "isDone", "Z", false)
def tyX9 : Nat → FieldType := fun k => match k with
  | 0 => .int
  | 1 => .long
  | 2 => .int
  | 3 => .int
  | _ => .boolean
abbrev wsX90 : List Cond := u_ws RX9 TX9 5
theorem nmX9 : ∀ a, a < 5 → ∀ b, b < 5 → a ≠ b → (TX9 a).2.1 ≠ (TX9 b).2.1 := by decide +kernel
theorem tyX9_ok : ∀ k, k < 5 → parseFieldDescriptor (TX9 k).2.2.1 = some (tyX9 k) := by decide +kernel
abbrev cX9_init : ByteArray := prog_10_method_1_code
def yX9_init : MethodName := ⟨RX9, "<init>", "(I)V"⟩
theorem dX9_init_0 : decode cX9_init 0 = .ok (.aload_n 0, 1) := by decide +kernel
theorem dX9_init_1 : decode cX9_init 1 = .ok (.invokespecial 1, 3) := by decide +kernel
theorem dX9_init_4 : decode cX9_init 4 = .ok (.aload_n 0, 1) := by decide +kernel
theorem dX9_init_5 : decode cX9_init 5 = .ok (.iload_n 1, 1) := by decide +kernel
theorem dX9_init_6 : decode cX9_init 6 = .ok (.putfield 7, 3) := by decide +kernel
theorem dX9_init_9 : decode cX9_init 9 = .ok (.aload_n 0, 1) := by decide +kernel
theorem dX9_init_10 : decode cX9_init 10 = .ok (.iconst 0, 1) := by decide +kernel
theorem dX9_init_11 : decode cX9_init 11 = .ok (.putfield 13, 3) := by decide +kernel
theorem dX9_init_14 : decode cX9_init 14 = .ok (.aload_n 0, 1) := by decide +kernel
theorem dX9_init_15 : decode cX9_init 15 = .ok (.iconst 0, 1) := by decide +kernel
theorem dX9_init_16 : decode cX9_init 16 = .ok (.putfield 16, 3) := by decide +kernel
theorem dX9_init_19 : decode cX9_init 19 = .ok (.return_, 1) := by decide +kernel
abbrev cX9_putBytes : ByteArray := prog_10_method_4_code
def yX9_putBytes : MethodName := ⟨RX9, "putBytes", "([BII)LHasher;"⟩
theorem dX9_putBytes_0 : decode cX9_putBytes 0 = .ok (.iload_n 2, 1) := by decide +kernel
theorem dX9_putBytes_1 : decode cX9_putBytes 1 = .ok (.iload_n 2, 1) := by decide +kernel
theorem dX9_putBytes_2 : decode cX9_putBytes 2 = .ok (.iload_n 3, 1) := by decide +kernel
theorem dX9_putBytes_3 : decode cX9_putBytes 3 = .ok (.iadd, 1) := by decide +kernel
theorem dX9_putBytes_4 : decode cX9_putBytes 4 = .ok (.aload_n 1, 1) := by decide +kernel
theorem dX9_putBytes_5 : decode cX9_putBytes 5 = .ok (.arraylength, 1) := by decide +kernel
theorem dX9_putBytes_6 : decode cX9_putBytes 6 = .ok (.invokestatic 43, 3) := by decide +kernel
theorem dX9_putBytes_9 : decode cX9_putBytes 9 = .ok (.iconst 0, 1) := by decide +kernel
theorem dX9_putBytes_10 : decode cX9_putBytes 10 = .ok (.istore 4, 2) := by decide +kernel
theorem dX9_putBytes_12 : decode cX9_putBytes 12 = .ok (.iload 4, 2) := by decide +kernel
theorem dX9_putBytes_14 : decode cX9_putBytes 14 = .ok (.iconst 4, 1) := by decide +kernel
theorem dX9_putBytes_15 : decode cX9_putBytes 15 = .ok (.iadd, 1) := by decide +kernel
theorem dX9_putBytes_16 : decode cX9_putBytes 16 = .ok (.iload_n 3, 1) := by decide +kernel
theorem dX9_putBytes_17 : decode cX9_putBytes 17 = .ok (.if_icmp .gt 23, 3) := by decide +kernel
theorem dX9_putBytes_20 : decode cX9_putBytes 20 = .ok (.aload_n 0, 1) := by decide +kernel
theorem dX9_putBytes_21 : decode cX9_putBytes 21 = .ok (.iconst 4, 1) := by decide +kernel
theorem dX9_putBytes_22 : decode cX9_putBytes 22 = .ok (.aload_n 1, 1) := by decide +kernel
theorem dX9_putBytes_23 : decode cX9_putBytes 23 = .ok (.iload_n 2, 1) := by decide +kernel
theorem dX9_putBytes_24 : decode cX9_putBytes 24 = .ok (.iload 4, 2) := by decide +kernel
theorem dX9_putBytes_26 : decode cX9_putBytes 26 = .ok (.iadd, 1) := by decide +kernel
theorem dX9_putBytes_27 : decode cX9_putBytes 27 = .ok (.invokestatic 49, 3) := by decide +kernel
theorem dX9_putBytes_30 : decode cX9_putBytes 30 = .ok (.i2l, 1) := by decide +kernel
theorem dX9_putBytes_31 : decode cX9_putBytes 31 = .ok (.invokevirtual 39, 3) := by decide +kernel
theorem dX9_putBytes_34 : decode cX9_putBytes 34 = .ok (.iinc 4 4, 3) := by decide +kernel
theorem dX9_putBytes_37 : decode cX9_putBytes 37 = .ok (.goto (-25), 3) := by decide +kernel
theorem dX9_putBytes_40 : decode cX9_putBytes 40 = .ok (.iload 4, 2) := by decide +kernel
theorem dX9_putBytes_42 : decode cX9_putBytes 42 = .ok (.iload_n 3, 1) := by decide +kernel
theorem dX9_putBytes_43 : decode cX9_putBytes 43 = .ok (.if_icmp .ge 20, 3) := by decide +kernel
theorem dX9_putBytes_46 : decode cX9_putBytes 46 = .ok (.aload_n 0, 1) := by decide +kernel
theorem dX9_putBytes_47 : decode cX9_putBytes 47 = .ok (.aload_n 1, 1) := by decide +kernel
theorem dX9_putBytes_48 : decode cX9_putBytes 48 = .ok (.iload_n 2, 1) := by decide +kernel
theorem dX9_putBytes_49 : decode cX9_putBytes 49 = .ok (.iload 4, 2) := by decide +kernel
theorem dX9_putBytes_51 : decode cX9_putBytes 51 = .ok (.iadd, 1) := by decide +kernel
theorem dX9_putBytes_52 : decode cX9_putBytes 52 = .ok (.baload, 1) := by decide +kernel
theorem dX9_putBytes_53 : decode cX9_putBytes 53 = .ok (.invokevirtual 53, 3) := by decide +kernel
theorem dX9_putBytes_56 : decode cX9_putBytes 56 = .ok (.pop, 1) := by decide +kernel
theorem dX9_putBytes_57 : decode cX9_putBytes 57 = .ok (.iinc 4 1, 3) := by decide +kernel
theorem dX9_putBytes_60 : decode cX9_putBytes 60 = .ok (.goto (-20), 3) := by decide +kernel
theorem dX9_putBytes_63 : decode cX9_putBytes 63 = .ok (.aload_n 0, 1) := by decide +kernel
theorem dX9_putBytes_64 : decode cX9_putBytes 64 = .ok (.areturn, 1) := by decide +kernel
abbrev cX9_update : ByteArray := prog_10_method_2_code
def yX9_update : MethodName := ⟨RX9, "update", "(IJ)V"⟩
theorem dX9_update_0 : decode cX9_update 0 = .ok (.aload_n 0, 1) := by decide +kernel
theorem dX9_update_1 : decode cX9_update 1 = .ok (.dup, 1) := by decide +kernel
theorem dX9_update_2 : decode cX9_update 2 = .ok (.getfield 20, 3) := by decide +kernel
theorem dX9_update_5 : decode cX9_update 5 = .ok (.lload_n 2, 1) := by decide +kernel
theorem dX9_update_6 : decode cX9_update 6 = .ok (.ldc2_w 24, 3) := by decide +kernel
theorem dX9_update_9 : decode cX9_update 9 = .ok (.land, 1) := by decide +kernel
theorem dX9_update_10 : decode cX9_update 10 = .ok (.aload_n 0, 1) := by decide +kernel
theorem dX9_update_11 : decode cX9_update 11 = .ok (.getfield 26, 3) := by decide +kernel
theorem dX9_update_14 : decode cX9_update 14 = .ok (.lshl, 1) := by decide +kernel
theorem dX9_update_15 : decode cX9_update 15 = .ok (.lor, 1) := by decide +kernel
theorem dX9_update_16 : decode cX9_update 16 = .ok (.putfield 20, 3) := by decide +kernel
theorem dX9_update_19 : decode cX9_update 19 = .ok (.aload_n 0, 1) := by decide +kernel
theorem dX9_update_20 : decode cX9_update 20 = .ok (.dup, 1) := by decide +kernel
theorem dX9_update_21 : decode cX9_update 21 = .ok (.getfield 26, 3) := by decide +kernel
theorem dX9_update_24 : decode cX9_update 24 = .ok (.iload_n 1, 1) := by decide +kernel
theorem dX9_update_25 : decode cX9_update 25 = .ok (.bipush 8, 2) := by decide +kernel
theorem dX9_update_27 : decode cX9_update 27 = .ok (.imul, 1) := by decide +kernel
theorem dX9_update_28 : decode cX9_update 28 = .ok (.iadd, 1) := by decide +kernel
theorem dX9_update_29 : decode cX9_update 29 = .ok (.putfield 26, 3) := by decide +kernel
theorem dX9_update_32 : decode cX9_update 32 = .ok (.aload_n 0, 1) := by decide +kernel
theorem dX9_update_33 : decode cX9_update 33 = .ok (.dup, 1) := by decide +kernel
theorem dX9_update_34 : decode cX9_update 34 = .ok (.getfield 13, 3) := by decide +kernel
theorem dX9_update_37 : decode cX9_update 37 = .ok (.iload_n 1, 1) := by decide +kernel
theorem dX9_update_38 : decode cX9_update 38 = .ok (.iadd, 1) := by decide +kernel
theorem dX9_update_39 : decode cX9_update 39 = .ok (.putfield 13, 3) := by decide +kernel
theorem dX9_update_42 : decode cX9_update 42 = .ok (.aload_n 0, 1) := by decide +kernel
theorem dX9_update_43 : decode cX9_update 43 = .ok (.getfield 26, 3) := by decide +kernel
theorem dX9_update_46 : decode cX9_update 46 = .ok (.bipush 32, 2) := by decide +kernel
theorem dX9_update_48 : decode cX9_update 48 = .ok (.if_icmp .lt 44, 3) := by decide +kernel
theorem dX9_update_51 : decode cX9_update 51 = .ok (.aload_n 0, 1) := by decide +kernel
theorem dX9_update_52 : decode cX9_update 52 = .ok (.aload_n 0, 1) := by decide +kernel
theorem dX9_update_53 : decode cX9_update 53 = .ok (.getfield 7, 3) := by decide +kernel
theorem dX9_update_56 : decode cX9_update 56 = .ok (.aload_n 0, 1) := by decide +kernel
theorem dX9_update_57 : decode cX9_update 57 = .ok (.getfield 20, 3) := by decide +kernel
theorem dX9_update_60 : decode cX9_update 60 = .ok (.l2i, 1) := by decide +kernel
theorem dX9_update_61 : decode cX9_update 61 = .ok (.invokestatic 29, 3) := by decide +kernel
theorem dX9_update_64 : decode cX9_update 64 = .ok (.invokestatic 35, 3) := by decide +kernel
theorem dX9_update_67 : decode cX9_update 67 = .ok (.putfield 7, 3) := by decide +kernel
theorem dX9_update_70 : decode cX9_update 70 = .ok (.aload_n 0, 1) := by decide +kernel
theorem dX9_update_71 : decode cX9_update 71 = .ok (.dup, 1) := by decide +kernel
theorem dX9_update_72 : decode cX9_update 72 = .ok (.getfield 20, 3) := by decide +kernel
theorem dX9_update_75 : decode cX9_update 75 = .ok (.bipush 32, 2) := by decide +kernel
theorem dX9_update_77 : decode cX9_update 77 = .ok (.lushr, 1) := by decide +kernel
theorem dX9_update_78 : decode cX9_update 78 = .ok (.putfield 20, 3) := by decide +kernel
theorem dX9_update_81 : decode cX9_update 81 = .ok (.aload_n 0, 1) := by decide +kernel
theorem dX9_update_82 : decode cX9_update 82 = .ok (.dup, 1) := by decide +kernel
theorem dX9_update_83 : decode cX9_update 83 = .ok (.getfield 26, 3) := by decide +kernel
theorem dX9_update_86 : decode cX9_update 86 = .ok (.bipush 32, 2) := by decide +kernel
theorem dX9_update_88 : decode cX9_update 88 = .ok (.isub, 1) := by decide +kernel
theorem dX9_update_89 : decode cX9_update 89 = .ok (.putfield 26, 3) := by decide +kernel
theorem dX9_update_92 : decode cX9_update 92 = .ok (.return_, 1) := by decide +kernel
abbrev cX9_putByte : ByteArray := prog_10_method_3_code
def yX9_putByte : MethodName := ⟨RX9, "putByte", "(B)LHasher;"⟩
theorem dX9_putByte_0 : decode cX9_putByte 0 = .ok (.aload_n 0, 1) := by decide +kernel
theorem dX9_putByte_1 : decode cX9_putByte 1 = .ok (.iconst 1, 1) := by decide +kernel
theorem dX9_putByte_2 : decode cX9_putByte 2 = .ok (.iload_n 1, 1) := by decide +kernel
theorem dX9_putByte_3 : decode cX9_putByte 3 = .ok (.sipush 255, 3) := by decide +kernel
theorem dX9_putByte_6 : decode cX9_putByte 6 = .ok (.iand, 1) := by decide +kernel
theorem dX9_putByte_7 : decode cX9_putByte 7 = .ok (.i2l, 1) := by decide +kernel
theorem dX9_putByte_8 : decode cX9_putByte 8 = .ok (.invokevirtual 39, 3) := by decide +kernel
theorem dX9_putByte_11 : decode cX9_putByte 11 = .ok (.aload_n 0, 1) := by decide +kernel
theorem dX9_putByte_12 : decode cX9_putByte 12 = .ok (.areturn, 1) := by decide +kernel
abbrev cX9_putInt : ByteArray := prog_10_method_5_code
def yX9_putInt : MethodName := ⟨RX9, "putInt", "(I)LHasher;"⟩
theorem dX9_putInt_0 : decode cX9_putInt 0 = .ok (.aload_n 0, 1) := by decide +kernel
theorem dX9_putInt_1 : decode cX9_putInt 1 = .ok (.iconst 4, 1) := by decide +kernel
theorem dX9_putInt_2 : decode cX9_putInt 2 = .ok (.iload_n 1, 1) := by decide +kernel
theorem dX9_putInt_3 : decode cX9_putInt 3 = .ok (.i2l, 1) := by decide +kernel
theorem dX9_putInt_4 : decode cX9_putInt 4 = .ok (.invokevirtual 39, 3) := by decide +kernel
theorem dX9_putInt_7 : decode cX9_putInt 7 = .ok (.aload_n 0, 1) := by decide +kernel
theorem dX9_putInt_8 : decode cX9_putInt 8 = .ok (.areturn, 1) := by decide +kernel
abbrev cX9_putLong : ByteArray := prog_10_method_6_code
def yX9_putLong : MethodName := ⟨RX9, "putLong", "(J)LHasher;"⟩
theorem dX9_putLong_0 : decode cX9_putLong 0 = .ok (.aload_n 0, 1) := by decide +kernel
theorem dX9_putLong_1 : decode cX9_putLong 1 = .ok (.iconst 4, 1) := by decide +kernel
theorem dX9_putLong_2 : decode cX9_putLong 2 = .ok (.lload_n 1, 1) := by decide +kernel
theorem dX9_putLong_3 : decode cX9_putLong 3 = .ok (.l2i, 1) := by decide +kernel
theorem dX9_putLong_4 : decode cX9_putLong 4 = .ok (.i2l, 1) := by decide +kernel
theorem dX9_putLong_5 : decode cX9_putLong 5 = .ok (.invokevirtual 39, 3) := by decide +kernel
theorem dX9_putLong_8 : decode cX9_putLong 8 = .ok (.aload_n 0, 1) := by decide +kernel
theorem dX9_putLong_9 : decode cX9_putLong 9 = .ok (.iconst 4, 1) := by decide +kernel
theorem dX9_putLong_10 : decode cX9_putLong 10 = .ok (.lload_n 1, 1) := by decide +kernel
theorem dX9_putLong_11 : decode cX9_putLong 11 = .ok (.bipush 32, 2) := by decide +kernel
theorem dX9_putLong_13 : decode cX9_putLong 13 = .ok (.lushr, 1) := by decide +kernel
theorem dX9_putLong_14 : decode cX9_putLong 14 = .ok (.invokevirtual 39, 3) := by decide +kernel
theorem dX9_putLong_17 : decode cX9_putLong 17 = .ok (.aload_n 0, 1) := by decide +kernel
theorem dX9_putLong_18 : decode cX9_putLong 18 = .ok (.areturn, 1) := by decide +kernel
abbrev cX9_hash : ByteArray := prog_10_method_7_code
def yX9_hash : MethodName := ⟨RX9, "hash", "()LHashCode;"⟩
theorem dX9_hash_0 : decode cX9_hash 0 = .ok (.aload_n 0, 1) := by decide +kernel
theorem dX9_hash_1 : decode cX9_hash 1 = .ok (.getfield 16, 3) := by decide +kernel
theorem dX9_hash_4 : decode cX9_hash 4 = .ok (.ifCond .ne 7, 3) := by decide +kernel
theorem dX9_hash_7 : decode cX9_hash 7 = .ok (.iconst 1, 1) := by decide +kernel
theorem dX9_hash_8 : decode cX9_hash 8 = .ok (.goto 4, 3) := by decide +kernel
theorem dX9_hash_11 : decode cX9_hash 11 = .ok (.iconst 0, 1) := by decide +kernel
theorem dX9_hash_12 : decode cX9_hash 12 = .ok (.invokestatic 57, 3) := by decide +kernel
theorem dX9_hash_15 : decode cX9_hash 15 = .ok (.aload_n 0, 1) := by decide +kernel
theorem dX9_hash_16 : decode cX9_hash 16 = .ok (.iconst 1, 1) := by decide +kernel
theorem dX9_hash_17 : decode cX9_hash 17 = .ok (.putfield 16, 3) := by decide +kernel
theorem dX9_hash_20 : decode cX9_hash 20 = .ok (.aload_n 0, 1) := by decide +kernel
theorem dX9_hash_21 : decode cX9_hash 21 = .ok (.dup, 1) := by decide +kernel
theorem dX9_hash_22 : decode cX9_hash 22 = .ok (.getfield 7, 3) := by decide +kernel
theorem dX9_hash_25 : decode cX9_hash 25 = .ok (.aload_n 0, 1) := by decide +kernel
theorem dX9_hash_26 : decode cX9_hash 26 = .ok (.getfield 20, 3) := by decide +kernel
theorem dX9_hash_29 : decode cX9_hash 29 = .ok (.l2i, 1) := by decide +kernel
theorem dX9_hash_30 : decode cX9_hash 30 = .ok (.invokestatic 29, 3) := by decide +kernel
theorem dX9_hash_33 : decode cX9_hash 33 = .ok (.ixor, 1) := by decide +kernel
theorem dX9_hash_34 : decode cX9_hash 34 = .ok (.putfield 7, 3) := by decide +kernel
theorem dX9_hash_37 : decode cX9_hash 37 = .ok (.aload_n 0, 1) := by decide +kernel
theorem dX9_hash_38 : decode cX9_hash 38 = .ok (.getfield 7, 3) := by decide +kernel
theorem dX9_hash_41 : decode cX9_hash 41 = .ok (.aload_n 0, 1) := by decide +kernel
theorem dX9_hash_42 : decode cX9_hash 42 = .ok (.getfield 13, 3) := by decide +kernel
theorem dX9_hash_45 : decode cX9_hash 45 = .ok (.invokestatic 61, 3) := by decide +kernel
theorem dX9_hash_48 : decode cX9_hash 48 = .ok (.areturn, 1) := by decide +kernel
theorem q23 : (Jvm.Cond.initialized "Murmur3_32HashFunction$Murmur3_32Hasher") ∈ lw_all := lw_g (lw_at lw_m1 17 rfl) rfl
theorem q87 : (Jvm.Cond.instantiable "Murmur3_32HashFunction$Murmur3_32Hasher" (5 : Nat)) ∈ lw_all := lw_g (lw_at lw_m1 81 rfl) rfl
theorem q89 : (Jvm.Cond.instanceMethod ({ cls := "Murmur3_32HashFunction$Murmur3_32Hasher", name := "<init>", desc := "(I)V" } : Jvm.MethodName)) ∈ lw_all := lw_g (lw_at lw_m1 83 rfl) rfl
theorem q90 : (Jvm.Cond.code ({ cls := "Murmur3_32HashFunction$Murmur3_32Hasher", name := "<init>", desc := "(I)V" } : Jvm.MethodName) prog_10_method_1_code (2 : Nat) (Option.none : Option Jvm.ClassFile.FieldType)) ∈ lw_all := lw_g (lw_at lw_m1 84 rfl) rfl
theorem q91 : (Jvm.Cond.methodLink "Murmur3_32HashFunction$Murmur3_32Hasher" (1 : Nat) ({ cls := "AbstractHasher", name := "<init>", desc := "()V" } : Jvm.MethodName)) ∈ lw_all := lw_g (lw_at lw_m1 85 rfl) rfl
theorem q95 : (Jvm.Cond.fieldLink "Murmur3_32HashFunction$Murmur3_32Hasher" (7 : Nat) "Murmur3_32HashFunction$Murmur3_32Hasher" "h1" "I") ∈ lw_all := lw_g (lw_at lw_m1 89 rfl) rfl
theorem q96 : (Jvm.Cond.fieldLink "Murmur3_32HashFunction$Murmur3_32Hasher" (20 : Nat) "Murmur3_32HashFunction$Murmur3_32Hasher" "buffer" "J") ∈ lw_all := lw_g (lw_at lw_m1 90 rfl) rfl
theorem q97 : (Jvm.Cond.fieldLink "Murmur3_32HashFunction$Murmur3_32Hasher" (26 : Nat) "Murmur3_32HashFunction$Murmur3_32Hasher" "shift" "I") ∈ lw_all := lw_g (lw_at lw_m1 91 rfl) rfl
theorem q98 : (Jvm.Cond.fieldLink "Murmur3_32HashFunction$Murmur3_32Hasher" (13 : Nat) "Murmur3_32HashFunction$Murmur3_32Hasher" "length" "I") ∈ lw_all := lw_g (lw_at lw_m1 92 rfl) rfl
theorem q99 : (Jvm.Cond.fieldLink "Murmur3_32HashFunction$Murmur3_32Hasher" (16 : Nat) "Murmur3_32HashFunction$Murmur3_32Hasher" "isDone" "Z") ∈ lw_all := lw_g (lw_at lw_m1 93 rfl) rfl
theorem q100 : (Jvm.Cond.lays "Murmur3_32HashFunction$Murmur3_32Hasher" "Murmur3_32HashFunction$Murmur3_32Hasher" "h1" "I") ∈ lw_all := lw_g (lw_at lw_m1 94 rfl) rfl
theorem q101 : (Jvm.Cond.soleField "Murmur3_32HashFunction$Murmur3_32Hasher" "h1") ∈ lw_all := lw_g (lw_at lw_m1 95 rfl) rfl
theorem q102 : (Jvm.Cond.lays "Murmur3_32HashFunction$Murmur3_32Hasher" "Murmur3_32HashFunction$Murmur3_32Hasher" "buffer" "J") ∈ lw_all := lw_g (lw_at lw_m1 96 rfl) rfl
theorem q103 : (Jvm.Cond.soleField "Murmur3_32HashFunction$Murmur3_32Hasher" "buffer") ∈ lw_all := lw_g (lw_at lw_m1 97 rfl) rfl
theorem q104 : (Jvm.Cond.lays "Murmur3_32HashFunction$Murmur3_32Hasher" "Murmur3_32HashFunction$Murmur3_32Hasher" "shift" "I") ∈ lw_all := lw_g (lw_at lw_m1 98 rfl) rfl
theorem q105 : (Jvm.Cond.soleField "Murmur3_32HashFunction$Murmur3_32Hasher" "shift") ∈ lw_all := lw_g (lw_at lw_m1 99 rfl) rfl
theorem q106 : (Jvm.Cond.lays "Murmur3_32HashFunction$Murmur3_32Hasher" "Murmur3_32HashFunction$Murmur3_32Hasher" "length" "I") ∈ lw_all := lw_g (lw_at lw_m1 100 rfl) rfl
theorem q107 : (Jvm.Cond.soleField "Murmur3_32HashFunction$Murmur3_32Hasher" "length") ∈ lw_all := lw_g (lw_at lw_m1 101 rfl) rfl
theorem q108 : (Jvm.Cond.lays "Murmur3_32HashFunction$Murmur3_32Hasher" "Murmur3_32HashFunction$Murmur3_32Hasher" "isDone" "Z") ∈ lw_all := lw_g (lw_at lw_m1 102 rfl) rfl
theorem q109 : (Jvm.Cond.soleField "Murmur3_32HashFunction$Murmur3_32Hasher" "isDone") ∈ lw_all := lw_g (lw_at lw_m1 103 rfl) rfl
theorem q110 : (Jvm.Cond.superclass "Murmur3_32HashFunction$Murmur3_32Hasher" "AbstractHasher") ∈ lw_all := lw_g (lw_at lw_m1 104 rfl) rfl
theorem q123 : (Jvm.Cond.castable "Murmur3_32HashFunction$Murmur3_32Hasher" "Hasher") ∈ lw_tbl := lw_at lw_m1 117 rfl
theorem q124 : (Jvm.Cond.selects "Murmur3_32HashFunction$Murmur3_32Hasher" ({ cls := "Hasher", name := "putBytes", desc := "([BII)LHasher;" } : Jvm.MethodName) ({ cls := "Murmur3_32HashFunction$Murmur3_32Hasher", name := "putBytes", desc := "([BII)LHasher;" } : Jvm.MethodName)) ∈ lw_all := lw_g (lw_at lw_m1 118 rfl) rfl
theorem q125 : (Jvm.Cond.unhidden "Murmur3_32HashFunction$Murmur3_32Hasher" "putBytes" "([BII)LHasher;") ∈ lw_tbl := lw_at lw_m1 119 rfl
theorem q126 : (Jvm.Cond.instanceMethod ({ cls := "Murmur3_32HashFunction$Murmur3_32Hasher", name := "putBytes", desc := "([BII)LHasher;" } : Jvm.MethodName)) ∈ lw_all := lw_g (lw_at lw_m1 120 rfl) rfl
theorem q127 : (Jvm.Cond.publicMethod ({ cls := "Murmur3_32HashFunction$Murmur3_32Hasher", name := "putBytes", desc := "([BII)LHasher;" } : Jvm.MethodName)) ∈ lw_tbl := lw_at lw_m1 121 rfl
theorem q128 : (Jvm.Cond.code ({ cls := "Murmur3_32HashFunction$Murmur3_32Hasher", name := "putBytes", desc := "([BII)LHasher;" } : Jvm.MethodName) prog_10_method_4_code (5 : Nat) (Option.some (Jvm.ClassFile.FieldType.object "Hasher"))) ∈ lw_all := lw_g (lw_at lw_m1 122 rfl) rfl
theorem q129 : (Jvm.Cond.methodLink "Murmur3_32HashFunction$Murmur3_32Hasher" (43 : Nat) ({ cls := "Preconditions", name := "checkPositionIndexes", desc := "(III)V" } : Jvm.MethodName)) ∈ lw_all := lw_g (lw_at lw_m1 123 rfl) rfl
theorem q198 : (Jvm.Cond.methodLinkNest "Murmur3_32HashFunction$Murmur3_32Hasher" (49 : Nat) ({ cls := "Murmur3_32HashFunction", name := "getIntLittleEndian", desc := "([BI)I" } : Jvm.MethodName) "Murmur3_32HashFunction") ∈ lw_tbl := lw_at lw_m1 192 rfl
theorem q204 : (Jvm.Cond.methodLink "Murmur3_32HashFunction$Murmur3_32Hasher" (39 : Nat) ({ cls := "Murmur3_32HashFunction$Murmur3_32Hasher", name := "update", desc := "(IJ)V" } : Jvm.MethodName)) ∈ lw_all := lw_g (lw_at lw_m1 198 rfl) rfl
theorem q205 : (Jvm.Cond.privateMethod ({ cls := "Murmur3_32HashFunction$Murmur3_32Hasher", name := "update", desc := "(IJ)V" } : Jvm.MethodName)) ∈ lw_tbl := lw_at lw_m1 199 rfl
theorem q206 : (Jvm.Cond.instanceMethod ({ cls := "Murmur3_32HashFunction$Murmur3_32Hasher", name := "update", desc := "(IJ)V" } : Jvm.MethodName)) ∈ lw_all := lw_g (lw_at lw_m1 200 rfl) rfl
theorem q207 : (Jvm.Cond.code ({ cls := "Murmur3_32HashFunction$Murmur3_32Hasher", name := "update", desc := "(IJ)V" } : Jvm.MethodName) prog_10_method_2_code (4 : Nat) (Option.none : Option Jvm.ClassFile.FieldType)) ∈ lw_all := lw_g (lw_at lw_m1 201 rfl) rfl
theorem q208 : (Jvm.Cond.constantLong "Murmur3_32HashFunction$Murmur3_32Hasher" (24 : Nat) (4294967295 : Int64)) ∈ lw_all := lw_g (lw_at lw_m1 202 rfl) rfl
theorem q209 : (Jvm.Cond.methodLinkNest "Murmur3_32HashFunction$Murmur3_32Hasher" (29 : Nat) ({ cls := "Murmur3_32HashFunction", name := "mixK1", desc := "(I)I" } : Jvm.MethodName) "Murmur3_32HashFunction") ∈ lw_tbl := lw_at lw_m1 203 rfl
theorem q217 : (Jvm.Cond.methodLinkNest "Murmur3_32HashFunction$Murmur3_32Hasher" (35 : Nat) ({ cls := "Murmur3_32HashFunction", name := "mixH1", desc := "(II)I" } : Jvm.MethodName) "Murmur3_32HashFunction") ∈ lw_tbl := lw_at lw_m1 211 rfl
theorem q221 : (Jvm.Cond.methodLink "Murmur3_32HashFunction$Murmur3_32Hasher" (53 : Nat) ({ cls := "Murmur3_32HashFunction$Murmur3_32Hasher", name := "putByte", desc := "(B)LHasher;" } : Jvm.MethodName)) ∈ lw_all := lw_g (lw_at lw_m1 215 rfl) rfl
theorem q222 : (Jvm.Cond.instanceMethod ({ cls := "Murmur3_32HashFunction$Murmur3_32Hasher", name := "putByte", desc := "(B)LHasher;" } : Jvm.MethodName)) ∈ lw_all := lw_g (lw_at lw_m1 216 rfl) rfl
theorem q223 : (Jvm.Cond.selects "Murmur3_32HashFunction$Murmur3_32Hasher" ({ cls := "Murmur3_32HashFunction$Murmur3_32Hasher", name := "putByte", desc := "(B)LHasher;" } : Jvm.MethodName) ({ cls := "Murmur3_32HashFunction$Murmur3_32Hasher", name := "putByte", desc := "(B)LHasher;" } : Jvm.MethodName)) ∈ lw_all := lw_g (lw_at lw_m1 217 rfl) rfl
theorem q224 : (Jvm.Cond.code ({ cls := "Murmur3_32HashFunction$Murmur3_32Hasher", name := "putByte", desc := "(B)LHasher;" } : Jvm.MethodName) prog_10_method_3_code (2 : Nat) (Option.some (Jvm.ClassFile.FieldType.object "Hasher"))) ∈ lw_all := lw_g (lw_at lw_m1 218 rfl) rfl
theorem q233 : (Jvm.Cond.selects "Murmur3_32HashFunction$Murmur3_32Hasher" ({ cls := "Hasher", name := "putByte", desc := "(B)LHasher;" } : Jvm.MethodName) ({ cls := "Murmur3_32HashFunction$Murmur3_32Hasher", name := "putByte", desc := "(B)LHasher;" } : Jvm.MethodName)) ∈ lw_all := lw_g (lw_at lw_m1 227 rfl) rfl
theorem q234 : (Jvm.Cond.unhidden "Murmur3_32HashFunction$Murmur3_32Hasher" "putByte" "(B)LHasher;") ∈ lw_tbl := lw_at lw_m1 228 rfl
theorem q235 : (Jvm.Cond.publicMethod ({ cls := "Murmur3_32HashFunction$Murmur3_32Hasher", name := "putByte", desc := "(B)LHasher;" } : Jvm.MethodName)) ∈ lw_tbl := lw_at lw_m1 229 rfl
theorem q244 : (Jvm.Cond.selects "Murmur3_32HashFunction$Murmur3_32Hasher" ({ cls := "Hasher", name := "putInt", desc := "(I)LHasher;" } : Jvm.MethodName) ({ cls := "Murmur3_32HashFunction$Murmur3_32Hasher", name := "putInt", desc := "(I)LHasher;" } : Jvm.MethodName)) ∈ lw_all := lw_g (lw_at lw_m1 238 rfl) rfl
theorem q245 : (Jvm.Cond.unhidden "Murmur3_32HashFunction$Murmur3_32Hasher" "putInt" "(I)LHasher;") ∈ lw_tbl := lw_at lw_m1 239 rfl
theorem q246 : (Jvm.Cond.instanceMethod ({ cls := "Murmur3_32HashFunction$Murmur3_32Hasher", name := "putInt", desc := "(I)LHasher;" } : Jvm.MethodName)) ∈ lw_all := lw_g (lw_at lw_m2 0 rfl) rfl
theorem q247 : (Jvm.Cond.publicMethod ({ cls := "Murmur3_32HashFunction$Murmur3_32Hasher", name := "putInt", desc := "(I)LHasher;" } : Jvm.MethodName)) ∈ lw_tbl := lw_at lw_m2 1 rfl
theorem q248 : (Jvm.Cond.code ({ cls := "Murmur3_32HashFunction$Murmur3_32Hasher", name := "putInt", desc := "(I)LHasher;" } : Jvm.MethodName) prog_10_method_5_code (2 : Nat) (Option.some (Jvm.ClassFile.FieldType.object "Hasher"))) ∈ lw_all := lw_g (lw_at lw_m2 2 rfl) rfl
theorem q261 : (Jvm.Cond.selects "Murmur3_32HashFunction$Murmur3_32Hasher" ({ cls := "Hasher", name := "putLong", desc := "(J)LHasher;" } : Jvm.MethodName) ({ cls := "Murmur3_32HashFunction$Murmur3_32Hasher", name := "putLong", desc := "(J)LHasher;" } : Jvm.MethodName)) ∈ lw_all := lw_g (lw_at lw_m2 15 rfl) rfl
theorem q262 : (Jvm.Cond.unhidden "Murmur3_32HashFunction$Murmur3_32Hasher" "putLong" "(J)LHasher;") ∈ lw_tbl := lw_at lw_m2 16 rfl
theorem q263 : (Jvm.Cond.instanceMethod ({ cls := "Murmur3_32HashFunction$Murmur3_32Hasher", name := "putLong", desc := "(J)LHasher;" } : Jvm.MethodName)) ∈ lw_all := lw_g (lw_at lw_m2 17 rfl) rfl
theorem q264 : (Jvm.Cond.publicMethod ({ cls := "Murmur3_32HashFunction$Murmur3_32Hasher", name := "putLong", desc := "(J)LHasher;" } : Jvm.MethodName)) ∈ lw_tbl := lw_at lw_m2 18 rfl
theorem q265 : (Jvm.Cond.code ({ cls := "Murmur3_32HashFunction$Murmur3_32Hasher", name := "putLong", desc := "(J)LHasher;" } : Jvm.MethodName) prog_10_method_6_code (3 : Nat) (Option.some (Jvm.ClassFile.FieldType.object "Hasher"))) ∈ lw_all := lw_g (lw_at lw_m2 19 rfl) rfl
theorem q274 : (Jvm.Cond.selects "Murmur3_32HashFunction$Murmur3_32Hasher" ({ cls := "Hasher", name := "hash", desc := "()LHashCode;" } : Jvm.MethodName) ({ cls := "Murmur3_32HashFunction$Murmur3_32Hasher", name := "hash", desc := "()LHashCode;" } : Jvm.MethodName)) ∈ lw_all := lw_g (lw_at lw_m2 28 rfl) rfl
theorem q275 : (Jvm.Cond.unhidden "Murmur3_32HashFunction$Murmur3_32Hasher" "hash" "()LHashCode;") ∈ lw_tbl := lw_at lw_m2 29 rfl
theorem q276 : (Jvm.Cond.instanceMethod ({ cls := "Murmur3_32HashFunction$Murmur3_32Hasher", name := "hash", desc := "()LHashCode;" } : Jvm.MethodName)) ∈ lw_all := lw_g (lw_at lw_m2 30 rfl) rfl
theorem q277 : (Jvm.Cond.publicMethod ({ cls := "Murmur3_32HashFunction$Murmur3_32Hasher", name := "hash", desc := "()LHashCode;" } : Jvm.MethodName)) ∈ lw_tbl := lw_at lw_m2 31 rfl
theorem q278 : (Jvm.Cond.code ({ cls := "Murmur3_32HashFunction$Murmur3_32Hasher", name := "hash", desc := "()LHashCode;" } : Jvm.MethodName) prog_10_method_7_code (1 : Nat) (Option.some (Jvm.ClassFile.FieldType.object "HashCode"))) ∈ lw_all := lw_g (lw_at lw_m2 32 rfl) rfl
theorem q279 : (Jvm.Cond.methodLink "Murmur3_32HashFunction$Murmur3_32Hasher" (57 : Nat) ({ cls := "Preconditions", name := "checkState", desc := "(Z)V" } : Jvm.MethodName)) ∈ lw_all := lw_g (lw_at lw_m2 33 rfl) rfl
theorem q303 : (Jvm.Cond.methodLinkNest "Murmur3_32HashFunction$Murmur3_32Hasher" (61 : Nat) ({ cls := "Murmur3_32HashFunction", name := "fmix", desc := "(II)LHashCode;" } : Jvm.MethodName) "Murmur3_32HashFunction") ∈ lw_tbl := lw_at lw_m2 57 rfl
theorem in_X9 : ∀ w ∈ wsX90, w ∈ lw_all := lw_in wsX90 [100, 102, 104, 106, 108] (by decide +kernel) (by decide +kernel)
/-! StreamHashDesk -/
def RX1 : String := "StreamHashDesk"
def TX1 : u_T := fun k => match k with
  | 0 => ("StreamHashDesk", "text", "[B", true)
  | 1 => ("StreamHashDesk", "size", "I", false)
  | 2 => ("StreamHashDesk", "run", "LHasher;", false)
  | _ => ("StreamHashDesk", "fed", "I", false)
def tyX1 : Nat → FieldType := fun k => match k with
  | 0 => .array .byte
  | 1 => .int
  | 2 => .object "Hasher"
  | _ => .int
abbrev wsX10 : List Cond := u_ws RX1 TX1 4
theorem nmX1 : ∀ a, a < 4 → ∀ b, b < 4 → a ≠ b → (TX1 a).2.1 ≠ (TX1 b).2.1 := by decide +kernel
theorem tyX1_ok : ∀ k, k < 4 → parseFieldDescriptor (TX1 k).2.2.1 = some (tyX1 k) := by decide +kernel
abbrev cX1_init : ByteArray := prog_12_method_1_code
def yX1_init : MethodName := ⟨RX1, "<init>", "()V"⟩
theorem dX1_init_0 : decode cX1_init 0 = .ok (.aload_n 0, 1) := by decide +kernel
theorem dX1_init_1 : decode cX1_init 1 = .ok (.invokespecial 1, 3) := by decide +kernel
theorem dX1_init_4 : decode cX1_init 4 = .ok (.aload_n 0, 1) := by decide +kernel
theorem dX1_init_5 : decode cX1_init 5 = .ok (.sipush 256, 3) := by decide +kernel
theorem dX1_init_8 : decode cX1_init 8 = .ok (.newarray .byte, 2) := by decide +kernel
theorem dX1_init_10 : decode cX1_init 10 = .ok (.putfield 7, 3) := by decide +kernel
theorem dX1_init_13 : decode cX1_init 13 = .ok (.return_, 1) := by decide +kernel
abbrev cX1_put : ByteArray := prog_12_method_2_code
def yX1_put : MethodName := ⟨RX1, "put", "(IIII)Z"⟩
theorem dX1_put_0 : decode cX1_put 0 = .ok (.aload_n 0, 1) := by decide +kernel
theorem dX1_put_1 : decode cX1_put 1 = .ok (.getfield 13, 3) := by decide +kernel
theorem dX1_put_4 : decode cX1_put 4 = .ok (.aload_n 0, 1) := by decide +kernel
theorem dX1_put_5 : decode cX1_put 5 = .ok (.getfield 7, 3) := by decide +kernel
theorem dX1_put_8 : decode cX1_put 8 = .ok (.arraylength, 1) := by decide +kernel
theorem dX1_put_9 : decode cX1_put 9 = .ok (.bipush 16, 2) := by decide +kernel
theorem dX1_put_11 : decode cX1_put 11 = .ok (.isub, 1) := by decide +kernel
theorem dX1_put_12 : decode cX1_put 12 = .ok (.if_icmp .le 5, 3) := by decide +kernel
theorem dX1_put_15 : decode cX1_put 15 = .ok (.iconst 0, 1) := by decide +kernel
theorem dX1_put_16 : decode cX1_put 16 = .ok (.ireturn, 1) := by decide +kernel
theorem dX1_put_17 : decode cX1_put 17 = .ok (.aload_n 0, 1) := by decide +kernel
theorem dX1_put_18 : decode cX1_put 18 = .ok (.getfield 7, 3) := by decide +kernel
theorem dX1_put_21 : decode cX1_put 21 = .ok (.aload_n 0, 1) := by decide +kernel
theorem dX1_put_22 : decode cX1_put 22 = .ok (.getfield 13, 3) := by decide +kernel
theorem dX1_put_25 : decode cX1_put 25 = .ok (.iload_n 1, 1) := by decide +kernel
theorem dX1_put_26 : decode cX1_put 26 = .ok (.invokestatic 17, 3) := by decide +kernel
theorem dX1_put_29 : decode cX1_put 29 = .ok (.aload_n 0, 1) := by decide +kernel
theorem dX1_put_30 : decode cX1_put 30 = .ok (.getfield 7, 3) := by decide +kernel
theorem dX1_put_33 : decode cX1_put 33 = .ok (.aload_n 0, 1) := by decide +kernel
theorem dX1_put_34 : decode cX1_put 34 = .ok (.getfield 13, 3) := by decide +kernel
theorem dX1_put_37 : decode cX1_put 37 = .ok (.iconst 4, 1) := by decide +kernel
theorem dX1_put_38 : decode cX1_put 38 = .ok (.iadd, 1) := by decide +kernel
theorem dX1_put_39 : decode cX1_put 39 = .ok (.iload_n 2, 1) := by decide +kernel
theorem dX1_put_40 : decode cX1_put 40 = .ok (.invokestatic 17, 3) := by decide +kernel
theorem dX1_put_43 : decode cX1_put 43 = .ok (.aload_n 0, 1) := by decide +kernel
theorem dX1_put_44 : decode cX1_put 44 = .ok (.getfield 7, 3) := by decide +kernel
theorem dX1_put_47 : decode cX1_put 47 = .ok (.aload_n 0, 1) := by decide +kernel
theorem dX1_put_48 : decode cX1_put 48 = .ok (.getfield 13, 3) := by decide +kernel
theorem dX1_put_51 : decode cX1_put 51 = .ok (.bipush 8, 2) := by decide +kernel
theorem dX1_put_53 : decode cX1_put 53 = .ok (.iadd, 1) := by decide +kernel
theorem dX1_put_54 : decode cX1_put 54 = .ok (.iload_n 3, 1) := by decide +kernel
theorem dX1_put_55 : decode cX1_put 55 = .ok (.invokestatic 17, 3) := by decide +kernel
theorem dX1_put_58 : decode cX1_put 58 = .ok (.aload_n 0, 1) := by decide +kernel
theorem dX1_put_59 : decode cX1_put 59 = .ok (.getfield 7, 3) := by decide +kernel
theorem dX1_put_62 : decode cX1_put 62 = .ok (.aload_n 0, 1) := by decide +kernel
theorem dX1_put_63 : decode cX1_put 63 = .ok (.getfield 13, 3) := by decide +kernel
theorem dX1_put_66 : decode cX1_put 66 = .ok (.bipush 12, 2) := by decide +kernel
theorem dX1_put_68 : decode cX1_put 68 = .ok (.iadd, 1) := by decide +kernel
theorem dX1_put_69 : decode cX1_put 69 = .ok (.iload 4, 2) := by decide +kernel
theorem dX1_put_71 : decode cX1_put 71 = .ok (.invokestatic 17, 3) := by decide +kernel
theorem dX1_put_74 : decode cX1_put 74 = .ok (.aload_n 0, 1) := by decide +kernel
theorem dX1_put_75 : decode cX1_put 75 = .ok (.dup, 1) := by decide +kernel
theorem dX1_put_76 : decode cX1_put 76 = .ok (.getfield 13, 3) := by decide +kernel
theorem dX1_put_79 : decode cX1_put 79 = .ok (.bipush 16, 2) := by decide +kernel
theorem dX1_put_81 : decode cX1_put 81 = .ok (.iadd, 1) := by decide +kernel
theorem dX1_put_82 : decode cX1_put 82 = .ok (.putfield 13, 3) := by decide +kernel
theorem dX1_put_85 : decode cX1_put 85 = .ok (.iconst 1, 1) := by decide +kernel
theorem dX1_put_86 : decode cX1_put 86 = .ok (.ireturn, 1) := by decide +kernel
abbrev cX1_word : ByteArray := prog_12_method_3_code
def yX1_word : MethodName := ⟨RX1, "word", "([BII)V"⟩
theorem dX1_word_0 : decode cX1_word 0 = .ok (.aload_n 0, 1) := by decide +kernel
theorem dX1_word_1 : decode cX1_word 1 = .ok (.iload_n 1, 1) := by decide +kernel
theorem dX1_word_2 : decode cX1_word 2 = .ok (.iload_n 2, 1) := by decide +kernel
theorem dX1_word_3 : decode cX1_word 3 = .ok (.bipush 24, 2) := by decide +kernel
theorem dX1_word_5 : decode cX1_word 5 = .ok (.ishr, 1) := by decide +kernel
theorem dX1_word_6 : decode cX1_word 6 = .ok (.i2b, 1) := by decide +kernel
theorem dX1_word_7 : decode cX1_word 7 = .ok (.bastore, 1) := by decide +kernel
theorem dX1_word_8 : decode cX1_word 8 = .ok (.aload_n 0, 1) := by decide +kernel
theorem dX1_word_9 : decode cX1_word 9 = .ok (.iload_n 1, 1) := by decide +kernel
theorem dX1_word_10 : decode cX1_word 10 = .ok (.iconst 1, 1) := by decide +kernel
theorem dX1_word_11 : decode cX1_word 11 = .ok (.iadd, 1) := by decide +kernel
theorem dX1_word_12 : decode cX1_word 12 = .ok (.iload_n 2, 1) := by decide +kernel
theorem dX1_word_13 : decode cX1_word 13 = .ok (.bipush 16, 2) := by decide +kernel
theorem dX1_word_15 : decode cX1_word 15 = .ok (.ishr, 1) := by decide +kernel
theorem dX1_word_16 : decode cX1_word 16 = .ok (.i2b, 1) := by decide +kernel
theorem dX1_word_17 : decode cX1_word 17 = .ok (.bastore, 1) := by decide +kernel
theorem dX1_word_18 : decode cX1_word 18 = .ok (.aload_n 0, 1) := by decide +kernel
theorem dX1_word_19 : decode cX1_word 19 = .ok (.iload_n 1, 1) := by decide +kernel
theorem dX1_word_20 : decode cX1_word 20 = .ok (.iconst 2, 1) := by decide +kernel
theorem dX1_word_21 : decode cX1_word 21 = .ok (.iadd, 1) := by decide +kernel
theorem dX1_word_22 : decode cX1_word 22 = .ok (.iload_n 2, 1) := by decide +kernel
theorem dX1_word_23 : decode cX1_word 23 = .ok (.bipush 8, 2) := by decide +kernel
theorem dX1_word_25 : decode cX1_word 25 = .ok (.ishr, 1) := by decide +kernel
theorem dX1_word_26 : decode cX1_word 26 = .ok (.i2b, 1) := by decide +kernel
theorem dX1_word_27 : decode cX1_word 27 = .ok (.bastore, 1) := by decide +kernel
theorem dX1_word_28 : decode cX1_word 28 = .ok (.aload_n 0, 1) := by decide +kernel
theorem dX1_word_29 : decode cX1_word 29 = .ok (.iload_n 1, 1) := by decide +kernel
theorem dX1_word_30 : decode cX1_word 30 = .ok (.iconst 3, 1) := by decide +kernel
theorem dX1_word_31 : decode cX1_word 31 = .ok (.iadd, 1) := by decide +kernel
theorem dX1_word_32 : decode cX1_word 32 = .ok (.iload_n 2, 1) := by decide +kernel
theorem dX1_word_33 : decode cX1_word 33 = .ok (.i2b, 1) := by decide +kernel
theorem dX1_word_34 : decode cX1_word 34 = .ok (.bastore, 1) := by decide +kernel
theorem dX1_word_35 : decode cX1_word 35 = .ok (.return_, 1) := by decide +kernel
abbrev cX1_trim : ByteArray := prog_12_method_4_code
def yX1_trim : MethodName := ⟨RX1, "trim", "(I)V"⟩
theorem dX1_trim_0 : decode cX1_trim 0 = .ok (.aload_n 0, 1) := by decide +kernel
theorem dX1_trim_1 : decode cX1_trim 1 = .ok (.aload_n 0, 1) := by decide +kernel
theorem dX1_trim_2 : decode cX1_trim 2 = .ok (.iload_n 1, 1) := by decide +kernel
theorem dX1_trim_3 : decode cX1_trim 3 = .ok (.invokevirtual 21, 3) := by decide +kernel
theorem dX1_trim_6 : decode cX1_trim 6 = .ok (.putfield 13, 3) := by decide +kernel
theorem dX1_trim_9 : decode cX1_trim 9 = .ok (.return_, 1) := by decide +kernel
abbrev cX1_from : ByteArray := prog_12_method_5_code
def yX1_from : MethodName := ⟨RX1, "from", "(I)I"⟩
theorem dX1_from_0 : decode cX1_from 0 = .ok (.iload_n 1, 1) := by decide +kernel
theorem dX1_from_1 : decode cX1_from 1 = .ok (.ldc 25, 2) := by decide +kernel
theorem dX1_from_3 : decode cX1_from 3 = .ok (.iand, 1) := by decide +kernel
theorem dX1_from_4 : decode cX1_from 4 = .ok (.aload_n 0, 1) := by decide +kernel
theorem dX1_from_5 : decode cX1_from 5 = .ok (.getfield 13, 3) := by decide +kernel
theorem dX1_from_8 : decode cX1_from 8 = .ok (.iconst 1, 1) := by decide +kernel
theorem dX1_from_9 : decode cX1_from 9 = .ok (.iadd, 1) := by decide +kernel
theorem dX1_from_10 : decode cX1_from 10 = .ok (.irem, 1) := by decide +kernel
theorem dX1_from_11 : decode cX1_from 11 = .ok (.ireturn, 1) := by decide +kernel
abbrev cX1_begin : ByteArray := prog_12_method_9_code
def yX1_begin : MethodName := ⟨RX1, "begin", "(I)V"⟩
theorem dX1_begin_0 : decode cX1_begin 0 = .ok (.aload_n 0, 1) := by decide +kernel
theorem dX1_begin_1 : decode cX1_begin 1 = .ok (.new 32, 3) := by decide +kernel
theorem dX1_begin_4 : decode cX1_begin 4 = .ok (.dup, 1) := by decide +kernel
theorem dX1_begin_5 : decode cX1_begin 5 = .ok (.iload_n 1, 1) := by decide +kernel
theorem dX1_begin_6 : decode cX1_begin 6 = .ok (.iconst 1, 1) := by decide +kernel
theorem dX1_begin_7 : decode cX1_begin 7 = .ok (.invokespecial 34, 3) := by decide +kernel
theorem dX1_begin_10 : decode cX1_begin 10 = .ok (.invokevirtual 37, 3) := by decide +kernel
theorem dX1_begin_13 : decode cX1_begin 13 = .ok (.putfield 41, 3) := by decide +kernel
theorem dX1_begin_16 : decode cX1_begin 16 = .ok (.aload_n 0, 1) := by decide +kernel
theorem dX1_begin_17 : decode cX1_begin 17 = .ok (.iconst 0, 1) := by decide +kernel
theorem dX1_begin_18 : decode cX1_begin 18 = .ok (.putfield 45, 3) := by decide +kernel
theorem dX1_begin_21 : decode cX1_begin 21 = .ok (.return_, 1) := by decide +kernel
abbrev cX1_feed : ByteArray := prog_12_method_10_code
def yX1_feed : MethodName := ⟨RX1, "feed", "(II)Z"⟩
theorem dX1_feed_0 : decode cX1_feed 0 = .ok (.aload_n 0, 1) := by decide +kernel
theorem dX1_feed_1 : decode cX1_feed 1 = .ok (.iload_n 1, 1) := by decide +kernel
theorem dX1_feed_2 : decode cX1_feed 2 = .ok (.invokevirtual 21, 3) := by decide +kernel
theorem dX1_feed_5 : decode cX1_feed 5 = .ok (.istore_n 3, 1) := by decide +kernel
theorem dX1_feed_6 : decode cX1_feed 6 = .ok (.aload_n 0, 1) := by decide +kernel
theorem dX1_feed_7 : decode cX1_feed 7 = .ok (.iload_n 3, 1) := by decide +kernel
theorem dX1_feed_8 : decode cX1_feed 8 = .ok (.iload_n 2, 1) := by decide +kernel
theorem dX1_feed_9 : decode cX1_feed 9 = .ok (.invokevirtual 26, 3) := by decide +kernel
theorem dX1_feed_12 : decode cX1_feed 12 = .ok (.istore 4, 2) := by decide +kernel
theorem dX1_feed_14 : decode cX1_feed 14 = .ok (.aload_n 0, 1) := by decide +kernel
theorem dX1_feed_15 : decode cX1_feed 15 = .ok (.getfield 41, 3) := by decide +kernel
theorem dX1_feed_18 : decode cX1_feed 18 = .ok (.ifnull 16, 3) := by decide +kernel
theorem dX1_feed_21 : decode cX1_feed 21 = .ok (.aload_n 0, 1) := by decide +kernel
theorem dX1_feed_22 : decode cX1_feed 22 = .ok (.getfield 45, 3) := by decide +kernel
theorem dX1_feed_25 : decode cX1_feed 25 = .ok (.iload 4, 2) := by decide +kernel
theorem dX1_feed_27 : decode cX1_feed 27 = .ok (.iadd, 1) := by decide +kernel
theorem dX1_feed_28 : decode cX1_feed 28 = .ok (.sipush 4096, 3) := by decide +kernel
theorem dX1_feed_31 : decode cX1_feed 31 = .ok (.if_icmp .le 5, 3) := by decide +kernel
theorem dX1_feed_34 : decode cX1_feed 34 = .ok (.iconst 0, 1) := by decide +kernel
theorem dX1_feed_35 : decode cX1_feed 35 = .ok (.ireturn, 1) := by decide +kernel
theorem dX1_feed_36 : decode cX1_feed 36 = .ok (.aload_n 0, 1) := by decide +kernel
theorem dX1_feed_37 : decode cX1_feed 37 = .ok (.dup, 1) := by decide +kernel
theorem dX1_feed_38 : decode cX1_feed 38 = .ok (.getfield 45, 3) := by decide +kernel
theorem dX1_feed_41 : decode cX1_feed 41 = .ok (.iload 4, 2) := by decide +kernel
theorem dX1_feed_43 : decode cX1_feed 43 = .ok (.iadd, 1) := by decide +kernel
theorem dX1_feed_44 : decode cX1_feed 44 = .ok (.putfield 45, 3) := by decide +kernel
theorem dX1_feed_47 : decode cX1_feed 47 = .ok (.aload_n 0, 1) := by decide +kernel
theorem dX1_feed_48 : decode cX1_feed 48 = .ok (.getfield 41, 3) := by decide +kernel
theorem dX1_feed_51 : decode cX1_feed 51 = .ok (.aload_n 0, 1) := by decide +kernel
theorem dX1_feed_52 : decode cX1_feed 52 = .ok (.getfield 7, 3) := by decide +kernel
theorem dX1_feed_55 : decode cX1_feed 55 = .ok (.iload_n 3, 1) := by decide +kernel
theorem dX1_feed_56 : decode cX1_feed 56 = .ok (.iload 4, 2) := by decide +kernel
theorem dX1_feed_58 : decode cX1_feed 58 = .ok (.invokeinterface 48 4, 5) := by decide +kernel
theorem dX1_feed_63 : decode cX1_feed 63 = .ok (.pop, 1) := by decide +kernel
theorem dX1_feed_64 : decode cX1_feed 64 = .ok (.iconst 1, 1) := by decide +kernel
theorem dX1_feed_65 : decode cX1_feed 65 = .ok (.ireturn, 1) := by decide +kernel
abbrev cX1_count : ByteArray := prog_12_method_6_code
def yX1_count : MethodName := ⟨RX1, "count", "(II)I"⟩
theorem dX1_count_0 : decode cX1_count 0 = .ok (.iload_n 2, 1) := by decide +kernel
theorem dX1_count_1 : decode cX1_count 1 = .ok (.ldc 25, 2) := by decide +kernel
theorem dX1_count_3 : decode cX1_count 3 = .ok (.iand, 1) := by decide +kernel
theorem dX1_count_4 : decode cX1_count 4 = .ok (.aload_n 0, 1) := by decide +kernel
theorem dX1_count_5 : decode cX1_count 5 = .ok (.getfield 13, 3) := by decide +kernel
theorem dX1_count_8 : decode cX1_count 8 = .ok (.iload_n 1, 1) := by decide +kernel
theorem dX1_count_9 : decode cX1_count 9 = .ok (.isub, 1) := by decide +kernel
theorem dX1_count_10 : decode cX1_count 10 = .ok (.iconst 1, 1) := by decide +kernel
theorem dX1_count_11 : decode cX1_count 11 = .ok (.iadd, 1) := by decide +kernel
theorem dX1_count_12 : decode cX1_count 12 = .ok (.irem, 1) := by decide +kernel
theorem dX1_count_13 : decode cX1_count 13 = .ok (.ireturn, 1) := by decide +kernel
abbrev cX1_one : ByteArray := prog_12_method_11_code
def yX1_one : MethodName := ⟨RX1, "one", "(I)Z"⟩
theorem dX1_one_0 : decode cX1_one 0 = .ok (.aload_n 0, 1) := by decide +kernel
theorem dX1_one_1 : decode cX1_one 1 = .ok (.getfield 41, 3) := by decide +kernel
theorem dX1_one_4 : decode cX1_one 4 = .ok (.ifnull 15, 3) := by decide +kernel
theorem dX1_one_7 : decode cX1_one 7 = .ok (.aload_n 0, 1) := by decide +kernel
theorem dX1_one_8 : decode cX1_one 8 = .ok (.getfield 45, 3) := by decide +kernel
theorem dX1_one_11 : decode cX1_one 11 = .ok (.iconst 1, 1) := by decide +kernel
theorem dX1_one_12 : decode cX1_one 12 = .ok (.iadd, 1) := by decide +kernel
theorem dX1_one_13 : decode cX1_one 13 = .ok (.sipush 4096, 3) := by decide +kernel
theorem dX1_one_16 : decode cX1_one 16 = .ok (.if_icmp .le 5, 3) := by decide +kernel
theorem dX1_one_19 : decode cX1_one 19 = .ok (.iconst 0, 1) := by decide +kernel
theorem dX1_one_20 : decode cX1_one 20 = .ok (.ireturn, 1) := by decide +kernel
theorem dX1_one_21 : decode cX1_one 21 = .ok (.aload_n 0, 1) := by decide +kernel
theorem dX1_one_22 : decode cX1_one 22 = .ok (.dup, 1) := by decide +kernel
theorem dX1_one_23 : decode cX1_one 23 = .ok (.getfield 45, 3) := by decide +kernel
theorem dX1_one_26 : decode cX1_one 26 = .ok (.iconst 1, 1) := by decide +kernel
theorem dX1_one_27 : decode cX1_one 27 = .ok (.iadd, 1) := by decide +kernel
theorem dX1_one_28 : decode cX1_one 28 = .ok (.putfield 45, 3) := by decide +kernel
theorem dX1_one_31 : decode cX1_one 31 = .ok (.aload_n 0, 1) := by decide +kernel
theorem dX1_one_32 : decode cX1_one 32 = .ok (.getfield 41, 3) := by decide +kernel
theorem dX1_one_35 : decode cX1_one 35 = .ok (.iload_n 1, 1) := by decide +kernel
theorem dX1_one_36 : decode cX1_one 36 = .ok (.i2b, 1) := by decide +kernel
theorem dX1_one_37 : decode cX1_one 37 = .ok (.invokeinterface 54 2, 5) := by decide +kernel
theorem dX1_one_42 : decode cX1_one 42 = .ok (.pop, 1) := by decide +kernel
theorem dX1_one_43 : decode cX1_one 43 = .ok (.iconst 1, 1) := by decide +kernel
theorem dX1_one_44 : decode cX1_one 44 = .ok (.ireturn, 1) := by decide +kernel
abbrev cX1_word_2 : ByteArray := prog_12_method_12_code
def yX1_word_2 : MethodName := ⟨RX1, "word", "(I)Z"⟩
theorem dX1_word_2_0 : decode cX1_word_2 0 = .ok (.aload_n 0, 1) := by decide +kernel
theorem dX1_word_2_1 : decode cX1_word_2 1 = .ok (.getfield 41, 3) := by decide +kernel
theorem dX1_word_2_4 : decode cX1_word_2 4 = .ok (.ifnull 15, 3) := by decide +kernel
theorem dX1_word_2_7 : decode cX1_word_2 7 = .ok (.aload_n 0, 1) := by decide +kernel
theorem dX1_word_2_8 : decode cX1_word_2 8 = .ok (.getfield 45, 3) := by decide +kernel
theorem dX1_word_2_11 : decode cX1_word_2 11 = .ok (.iconst 4, 1) := by decide +kernel
theorem dX1_word_2_12 : decode cX1_word_2 12 = .ok (.iadd, 1) := by decide +kernel
theorem dX1_word_2_13 : decode cX1_word_2 13 = .ok (.sipush 4096, 3) := by decide +kernel
theorem dX1_word_2_16 : decode cX1_word_2 16 = .ok (.if_icmp .le 5, 3) := by decide +kernel
theorem dX1_word_2_19 : decode cX1_word_2 19 = .ok (.iconst 0, 1) := by decide +kernel
theorem dX1_word_2_20 : decode cX1_word_2 20 = .ok (.ireturn, 1) := by decide +kernel
theorem dX1_word_2_21 : decode cX1_word_2 21 = .ok (.aload_n 0, 1) := by decide +kernel
theorem dX1_word_2_22 : decode cX1_word_2 22 = .ok (.dup, 1) := by decide +kernel
theorem dX1_word_2_23 : decode cX1_word_2 23 = .ok (.getfield 45, 3) := by decide +kernel
theorem dX1_word_2_26 : decode cX1_word_2 26 = .ok (.iconst 4, 1) := by decide +kernel
theorem dX1_word_2_27 : decode cX1_word_2 27 = .ok (.iadd, 1) := by decide +kernel
theorem dX1_word_2_28 : decode cX1_word_2 28 = .ok (.putfield 45, 3) := by decide +kernel
theorem dX1_word_2_31 : decode cX1_word_2 31 = .ok (.aload_n 0, 1) := by decide +kernel
theorem dX1_word_2_32 : decode cX1_word_2 32 = .ok (.getfield 41, 3) := by decide +kernel
theorem dX1_word_2_35 : decode cX1_word_2 35 = .ok (.iload_n 1, 1) := by decide +kernel
theorem dX1_word_2_36 : decode cX1_word_2 36 = .ok (.invokeinterface 58 2, 5) := by decide +kernel
theorem dX1_word_2_41 : decode cX1_word_2 41 = .ok (.pop, 1) := by decide +kernel
theorem dX1_word_2_42 : decode cX1_word_2 42 = .ok (.iconst 1, 1) := by decide +kernel
theorem dX1_word_2_43 : decode cX1_word_2 43 = .ok (.ireturn, 1) := by decide +kernel
abbrev cX1_wide : ByteArray := prog_12_method_13_code
def yX1_wide : MethodName := ⟨RX1, "wide", "(II)Z"⟩
theorem dX1_wide_0 : decode cX1_wide 0 = .ok (.aload_n 0, 1) := by decide +kernel
theorem dX1_wide_1 : decode cX1_wide 1 = .ok (.getfield 41, 3) := by decide +kernel
theorem dX1_wide_4 : decode cX1_wide 4 = .ok (.ifnull 16, 3) := by decide +kernel
theorem dX1_wide_7 : decode cX1_wide 7 = .ok (.aload_n 0, 1) := by decide +kernel
theorem dX1_wide_8 : decode cX1_wide 8 = .ok (.getfield 45, 3) := by decide +kernel
theorem dX1_wide_11 : decode cX1_wide 11 = .ok (.bipush 8, 2) := by decide +kernel
theorem dX1_wide_13 : decode cX1_wide 13 = .ok (.iadd, 1) := by decide +kernel
theorem dX1_wide_14 : decode cX1_wide 14 = .ok (.sipush 4096, 3) := by decide +kernel
theorem dX1_wide_17 : decode cX1_wide 17 = .ok (.if_icmp .le 5, 3) := by decide +kernel
theorem dX1_wide_20 : decode cX1_wide 20 = .ok (.iconst 0, 1) := by decide +kernel
theorem dX1_wide_21 : decode cX1_wide 21 = .ok (.ireturn, 1) := by decide +kernel
theorem dX1_wide_22 : decode cX1_wide 22 = .ok (.aload_n 0, 1) := by decide +kernel
theorem dX1_wide_23 : decode cX1_wide 23 = .ok (.dup, 1) := by decide +kernel
theorem dX1_wide_24 : decode cX1_wide 24 = .ok (.getfield 45, 3) := by decide +kernel
theorem dX1_wide_27 : decode cX1_wide 27 = .ok (.bipush 8, 2) := by decide +kernel
theorem dX1_wide_29 : decode cX1_wide 29 = .ok (.iadd, 1) := by decide +kernel
theorem dX1_wide_30 : decode cX1_wide 30 = .ok (.putfield 45, 3) := by decide +kernel
theorem dX1_wide_33 : decode cX1_wide 33 = .ok (.aload_n 0, 1) := by decide +kernel
theorem dX1_wide_34 : decode cX1_wide 34 = .ok (.getfield 41, 3) := by decide +kernel
theorem dX1_wide_37 : decode cX1_wide 37 = .ok (.iload_n 1, 1) := by decide +kernel
theorem dX1_wide_38 : decode cX1_wide 38 = .ok (.iload_n 2, 1) := by decide +kernel
theorem dX1_wide_39 : decode cX1_wide 39 = .ok (.invokestatic 62, 3) := by decide +kernel
theorem dX1_wide_42 : decode cX1_wide 42 = .ok (.invokeinterface 66 3, 5) := by decide +kernel
theorem dX1_wide_47 : decode cX1_wide 47 = .ok (.pop, 1) := by decide +kernel
theorem dX1_wide_48 : decode cX1_wide 48 = .ok (.iconst 1, 1) := by decide +kernel
theorem dX1_wide_49 : decode cX1_wide 49 = .ok (.ireturn, 1) := by decide +kernel
abbrev cX1_of : ByteArray := prog_12_method_8_code
def yX1_of : MethodName := ⟨RX1, "of", "(II)J"⟩
theorem dX1_of_0 : decode cX1_of 0 = .ok (.iload_n 0, 1) := by decide +kernel
theorem dX1_of_1 : decode cX1_of 1 = .ok (.i2l, 1) := by decide +kernel
theorem dX1_of_2 : decode cX1_of 2 = .ok (.bipush 32, 2) := by decide +kernel
theorem dX1_of_4 : decode cX1_of 4 = .ok (.lshl, 1) := by decide +kernel
theorem dX1_of_5 : decode cX1_of 5 = .ok (.iload_n 1, 1) := by decide +kernel
theorem dX1_of_6 : decode cX1_of 6 = .ok (.i2l, 1) := by decide +kernel
theorem dX1_of_7 : decode cX1_of 7 = .ok (.ldc2_w 30, 3) := by decide +kernel
theorem dX1_of_10 : decode cX1_of 10 = .ok (.land, 1) := by decide +kernel
theorem dX1_of_11 : decode cX1_of 11 = .ok (.lor, 1) := by decide +kernel
theorem dX1_of_12 : decode cX1_of 12 = .ok (.lreturn, 1) := by decide +kernel
abbrev cX1_close : ByteArray := prog_12_method_14_code
def yX1_close : MethodName := ⟨RX1, "close", "()I"⟩
theorem dX1_close_0 : decode cX1_close 0 = .ok (.aload_n 0, 1) := by decide +kernel
theorem dX1_close_1 : decode cX1_close 1 = .ok (.getfield 41, 3) := by decide +kernel
theorem dX1_close_4 : decode cX1_close 4 = .ok (.ifnonnull 5, 3) := by decide +kernel
theorem dX1_close_7 : decode cX1_close 7 = .ok (.iconst 0, 1) := by decide +kernel
theorem dX1_close_8 : decode cX1_close 8 = .ok (.ireturn, 1) := by decide +kernel
theorem dX1_close_9 : decode cX1_close 9 = .ok (.aload_n 0, 1) := by decide +kernel
theorem dX1_close_10 : decode cX1_close 10 = .ok (.getfield 41, 3) := by decide +kernel
theorem dX1_close_13 : decode cX1_close 13 = .ok (.invokeinterface 70 1, 5) := by decide +kernel
theorem dX1_close_18 : decode cX1_close 18 = .ok (.invokevirtual 74, 3) := by decide +kernel
theorem dX1_close_21 : decode cX1_close 21 = .ok (.istore_n 1, 1) := by decide +kernel
theorem dX1_close_22 : decode cX1_close 22 = .ok (.aload_n 0, 1) := by decide +kernel
theorem dX1_close_23 : decode cX1_close 23 = .ok (.aconst_null, 1) := by decide +kernel
theorem dX1_close_24 : decode cX1_close 24 = .ok (.putfield 41, 3) := by decide +kernel
theorem dX1_close_27 : decode cX1_close 27 = .ok (.iload_n 1, 1) := by decide +kernel
theorem dX1_close_28 : decode cX1_close 28 = .ok (.ireturn, 1) := by decide +kernel
abbrev cX1_whole : ByteArray := prog_12_method_15_code
def yX1_whole : MethodName := ⟨RX1, "whole", "(III)I"⟩
theorem dX1_whole_0 : decode cX1_whole 0 = .ok (.aload_n 0, 1) := by decide +kernel
theorem dX1_whole_1 : decode cX1_whole 1 = .ok (.iload_n 1, 1) := by decide +kernel
theorem dX1_whole_2 : decode cX1_whole 2 = .ok (.invokevirtual 21, 3) := by decide +kernel
theorem dX1_whole_5 : decode cX1_whole 5 = .ok (.istore 4, 2) := by decide +kernel
theorem dX1_whole_7 : decode cX1_whole 7 = .ok (.aload_n 0, 1) := by decide +kernel
theorem dX1_whole_8 : decode cX1_whole 8 = .ok (.iload 4, 2) := by decide +kernel
theorem dX1_whole_10 : decode cX1_whole 10 = .ok (.iload_n 2, 1) := by decide +kernel
theorem dX1_whole_11 : decode cX1_whole 11 = .ok (.invokevirtual 26, 3) := by decide +kernel
theorem dX1_whole_14 : decode cX1_whole 14 = .ok (.istore 5, 2) := by decide +kernel
theorem dX1_whole_16 : decode cX1_whole 16 = .ok (.new 32, 3) := by decide +kernel
theorem dX1_whole_19 : decode cX1_whole 19 = .ok (.dup, 1) := by decide +kernel
theorem dX1_whole_20 : decode cX1_whole 20 = .ok (.iload_n 3, 1) := by decide +kernel
theorem dX1_whole_21 : decode cX1_whole 21 = .ok (.iconst 1, 1) := by decide +kernel
theorem dX1_whole_22 : decode cX1_whole 22 = .ok (.invokespecial 34, 3) := by decide +kernel
theorem dX1_whole_25 : decode cX1_whole 25 = .ok (.aload_n 0, 1) := by decide +kernel
theorem dX1_whole_26 : decode cX1_whole 26 = .ok (.getfield 7, 3) := by decide +kernel
theorem dX1_whole_29 : decode cX1_whole 29 = .ok (.iload 4, 2) := by decide +kernel
theorem dX1_whole_31 : decode cX1_whole 31 = .ok (.iload 5, 2) := by decide +kernel
theorem dX1_whole_33 : decode cX1_whole 33 = .ok (.invokevirtual 80, 3) := by decide +kernel
theorem dX1_whole_36 : decode cX1_whole 36 = .ok (.invokevirtual 74, 3) := by decide +kernel
theorem dX1_whole_39 : decode cX1_whole 39 = .ok (.ireturn, 1) := by decide +kernel
abbrev cX1_ofWord : ByteArray := prog_12_method_16_code
def yX1_ofWord : MethodName := ⟨RX1, "ofWord", "(II)I"⟩
theorem dX1_ofWord_0 : decode cX1_ofWord 0 = .ok (.new 32, 3) := by decide +kernel
theorem dX1_ofWord_3 : decode cX1_ofWord 3 = .ok (.dup, 1) := by decide +kernel
theorem dX1_ofWord_4 : decode cX1_ofWord 4 = .ok (.iload_n 2, 1) := by decide +kernel
theorem dX1_ofWord_5 : decode cX1_ofWord 5 = .ok (.iconst 1, 1) := by decide +kernel
theorem dX1_ofWord_6 : decode cX1_ofWord 6 = .ok (.invokespecial 34, 3) := by decide +kernel
theorem dX1_ofWord_9 : decode cX1_ofWord 9 = .ok (.iload_n 1, 1) := by decide +kernel
theorem dX1_ofWord_10 : decode cX1_ofWord 10 = .ok (.invokevirtual 84, 3) := by decide +kernel
theorem dX1_ofWord_13 : decode cX1_ofWord 13 = .ok (.invokevirtual 74, 3) := by decide +kernel
theorem dX1_ofWord_16 : decode cX1_ofWord 16 = .ok (.ireturn, 1) := by decide +kernel
abbrev cX1_ofWide : ByteArray := prog_12_method_17_code
def yX1_ofWide : MethodName := ⟨RX1, "ofWide", "(III)I"⟩
theorem dX1_ofWide_0 : decode cX1_ofWide 0 = .ok (.new 32, 3) := by decide +kernel
theorem dX1_ofWide_3 : decode cX1_ofWide 3 = .ok (.dup, 1) := by decide +kernel
theorem dX1_ofWide_4 : decode cX1_ofWide 4 = .ok (.iload_n 3, 1) := by decide +kernel
theorem dX1_ofWide_5 : decode cX1_ofWide 5 = .ok (.iconst 1, 1) := by decide +kernel
theorem dX1_ofWide_6 : decode cX1_ofWide 6 = .ok (.invokespecial 34, 3) := by decide +kernel
theorem dX1_ofWide_9 : decode cX1_ofWide 9 = .ok (.iload_n 1, 1) := by decide +kernel
theorem dX1_ofWide_10 : decode cX1_ofWide 10 = .ok (.iload_n 2, 1) := by decide +kernel
theorem dX1_ofWide_11 : decode cX1_ofWide 11 = .ok (.invokestatic 62, 3) := by decide +kernel
theorem dX1_ofWide_14 : decode cX1_ofWide 14 = .ok (.invokevirtual 88, 3) := by decide +kernel
theorem dX1_ofWide_17 : decode cX1_ofWide 17 = .ok (.invokevirtual 74, 3) := by decide +kernel
theorem dX1_ofWide_20 : decode cX1_ofWide 20 = .ok (.ireturn, 1) := by decide +kernel
theorem q7 : (Jvm.Cond.initialized "StreamHashDesk") ∈ lw_all := lw_g (lw_at lw_m1 1 rfl) rfl
theorem q25 : (Jvm.Cond.instantiable "StreamHashDesk" (4 : Nat)) ∈ lw_all := lw_g (lw_at lw_m1 19 rfl) rfl
theorem q27 : (Jvm.Cond.instanceMethod ({ cls := "StreamHashDesk", name := "<init>", desc := "()V" } : Jvm.MethodName)) ∈ lw_all := lw_g (lw_at lw_m1 21 rfl) rfl
theorem q28 : (Jvm.Cond.code ({ cls := "StreamHashDesk", name := "<init>", desc := "()V" } : Jvm.MethodName) prog_12_method_1_code (1 : Nat) (Option.none : Option Jvm.ClassFile.FieldType)) ∈ lw_all := lw_g (lw_at lw_m1 22 rfl) rfl
theorem q29 : (Jvm.Cond.methodLink "StreamHashDesk" (1 : Nat) ({ cls := "java/lang/Object", name := "<init>", desc := "()V" } : Jvm.MethodName)) ∈ lw_all := lw_g (lw_at lw_m1 23 rfl) rfl
theorem q32 : (Jvm.Cond.fieldLink "StreamHashDesk" (7 : Nat) "StreamHashDesk" "text" "[B") ∈ lw_all := lw_g (lw_at lw_m1 26 rfl) rfl
theorem q33 : (Jvm.Cond.fieldLink "StreamHashDesk" (13 : Nat) "StreamHashDesk" "size" "I") ∈ lw_all := lw_g (lw_at lw_m1 27 rfl) rfl
theorem q34 : (Jvm.Cond.fieldLink "StreamHashDesk" (41 : Nat) "StreamHashDesk" "run" "LHasher;") ∈ lw_all := lw_g (lw_at lw_m1 28 rfl) rfl
theorem q35 : (Jvm.Cond.fieldLink "StreamHashDesk" (45 : Nat) "StreamHashDesk" "fed" "I") ∈ lw_all := lw_g (lw_at lw_m1 29 rfl) rfl
theorem q36 : (Jvm.Cond.laysFinal "StreamHashDesk" "StreamHashDesk" "text" "[B") ∈ lw_all := lw_g (lw_at lw_m1 30 rfl) rfl
theorem q37 : (Jvm.Cond.soleField "StreamHashDesk" "text") ∈ lw_all := lw_g (lw_at lw_m1 31 rfl) rfl
theorem q38 : (Jvm.Cond.lays "StreamHashDesk" "StreamHashDesk" "size" "I") ∈ lw_all := lw_g (lw_at lw_m1 32 rfl) rfl
theorem q39 : (Jvm.Cond.soleField "StreamHashDesk" "size") ∈ lw_all := lw_g (lw_at lw_m1 33 rfl) rfl
theorem q40 : (Jvm.Cond.lays "StreamHashDesk" "StreamHashDesk" "run" "LHasher;") ∈ lw_all := lw_g (lw_at lw_m1 34 rfl) rfl
theorem q41 : (Jvm.Cond.soleField "StreamHashDesk" "run") ∈ lw_all := lw_g (lw_at lw_m1 35 rfl) rfl
theorem q42 : (Jvm.Cond.lays "StreamHashDesk" "StreamHashDesk" "fed" "I") ∈ lw_all := lw_g (lw_at lw_m1 36 rfl) rfl
theorem q43 : (Jvm.Cond.soleField "StreamHashDesk" "fed") ∈ lw_all := lw_g (lw_at lw_m1 37 rfl) rfl
theorem q44 : (Jvm.Cond.superclass "StreamHashDesk" "java/lang/Object") ∈ lw_all := lw_g (lw_at lw_m1 38 rfl) rfl
theorem q47 : (Jvm.Cond.instanceMethod ({ cls := "StreamHashDesk", name := "put", desc := "(IIII)Z" } : Jvm.MethodName)) ∈ lw_all := lw_g (lw_at lw_m1 41 rfl) rfl
theorem q48 : (Jvm.Cond.selects "StreamHashDesk" ({ cls := "StreamHashDesk", name := "put", desc := "(IIII)Z" } : Jvm.MethodName) ({ cls := "StreamHashDesk", name := "put", desc := "(IIII)Z" } : Jvm.MethodName)) ∈ lw_all := lw_g (lw_at lw_m1 42 rfl) rfl
theorem q49 : (Jvm.Cond.code ({ cls := "StreamHashDesk", name := "put", desc := "(IIII)Z" } : Jvm.MethodName) prog_12_method_2_code (5 : Nat) (Option.some Jvm.ClassFile.FieldType.boolean)) ∈ lw_all := lw_g (lw_at lw_m1 43 rfl) rfl
theorem q50 : (Jvm.Cond.methodLink "StreamHashDesk" (17 : Nat) ({ cls := "StreamHashDesk", name := "word", desc := "([BII)V" } : Jvm.MethodName)) ∈ lw_all := lw_g (lw_at lw_m1 44 rfl) rfl
theorem q51 : (Jvm.Cond.static ({ cls := "StreamHashDesk", name := "word", desc := "([BII)V" } : Jvm.MethodName)) ∈ lw_all := lw_g (lw_at lw_m1 45 rfl) rfl
theorem q52 : (Jvm.Cond.code ({ cls := "StreamHashDesk", name := "word", desc := "([BII)V" } : Jvm.MethodName) prog_12_method_3_code (3 : Nat) (Option.none : Option Jvm.ClassFile.FieldType)) ∈ lw_all := lw_g (lw_at lw_m1 46 rfl) rfl
theorem q54 : (Jvm.Cond.instanceMethod ({ cls := "StreamHashDesk", name := "trim", desc := "(I)V" } : Jvm.MethodName)) ∈ lw_all := lw_g (lw_at lw_m1 48 rfl) rfl
theorem q55 : (Jvm.Cond.selects "StreamHashDesk" ({ cls := "StreamHashDesk", name := "trim", desc := "(I)V" } : Jvm.MethodName) ({ cls := "StreamHashDesk", name := "trim", desc := "(I)V" } : Jvm.MethodName)) ∈ lw_all := lw_g (lw_at lw_m1 49 rfl) rfl
theorem q56 : (Jvm.Cond.code ({ cls := "StreamHashDesk", name := "trim", desc := "(I)V" } : Jvm.MethodName) prog_12_method_4_code (2 : Nat) (Option.none : Option Jvm.ClassFile.FieldType)) ∈ lw_all := lw_g (lw_at lw_m1 50 rfl) rfl
theorem q57 : (Jvm.Cond.methodLink "StreamHashDesk" (21 : Nat) ({ cls := "StreamHashDesk", name := "from", desc := "(I)I" } : Jvm.MethodName)) ∈ lw_all := lw_g (lw_at lw_m1 51 rfl) rfl
theorem q58 : (Jvm.Cond.privateMethod ({ cls := "StreamHashDesk", name := "from", desc := "(I)I" } : Jvm.MethodName)) ∈ lw_tbl := lw_at lw_m1 52 rfl
theorem q59 : (Jvm.Cond.instanceMethod ({ cls := "StreamHashDesk", name := "from", desc := "(I)I" } : Jvm.MethodName)) ∈ lw_all := lw_g (lw_at lw_m1 53 rfl) rfl
theorem q60 : (Jvm.Cond.code ({ cls := "StreamHashDesk", name := "from", desc := "(I)I" } : Jvm.MethodName) prog_12_method_5_code (2 : Nat) (Option.some Jvm.ClassFile.FieldType.int)) ∈ lw_all := lw_g (lw_at lw_m1 54 rfl) rfl
theorem q61 : (Jvm.Cond.constant "StreamHashDesk" (25 : Nat) (2147483647 : Int32)) ∈ lw_all := lw_g (lw_at lw_m1 55 rfl) rfl
theorem q63 : (Jvm.Cond.instanceMethod ({ cls := "StreamHashDesk", name := "begin", desc := "(I)V" } : Jvm.MethodName)) ∈ lw_all := lw_g (lw_at lw_m1 57 rfl) rfl
theorem q64 : (Jvm.Cond.selects "StreamHashDesk" ({ cls := "StreamHashDesk", name := "begin", desc := "(I)V" } : Jvm.MethodName) ({ cls := "StreamHashDesk", name := "begin", desc := "(I)V" } : Jvm.MethodName)) ∈ lw_all := lw_g (lw_at lw_m1 58 rfl) rfl
theorem q65 : (Jvm.Cond.code ({ cls := "StreamHashDesk", name := "begin", desc := "(I)V" } : Jvm.MethodName) prog_12_method_9_code (2 : Nat) (Option.none : Option Jvm.ClassFile.FieldType)) ∈ lw_all := lw_g (lw_at lw_m1 59 rfl) rfl
theorem q66 : (Jvm.Cond.classLink "StreamHashDesk" (32 : Nat) "Murmur3_32HashFunction") ∈ lw_all := lw_g (lw_at lw_m1 60 rfl) rfl
theorem q68 : (Jvm.Cond.methodLink "StreamHashDesk" (34 : Nat) ({ cls := "Murmur3_32HashFunction", name := "<init>", desc := "(IZ)V" } : Jvm.MethodName)) ∈ lw_all := lw_g (lw_at lw_m1 62 rfl) rfl
theorem q82 : (Jvm.Cond.methodLink "StreamHashDesk" (37 : Nat) ({ cls := "Murmur3_32HashFunction", name := "newHasher", desc := "()LHasher;" } : Jvm.MethodName)) ∈ lw_all := lw_g (lw_at lw_m1 76 rfl) rfl
theorem q112 : (Jvm.Cond.instanceMethod ({ cls := "StreamHashDesk", name := "feed", desc := "(II)Z" } : Jvm.MethodName)) ∈ lw_all := lw_g (lw_at lw_m1 106 rfl) rfl
theorem q113 : (Jvm.Cond.selects "StreamHashDesk" ({ cls := "StreamHashDesk", name := "feed", desc := "(II)Z" } : Jvm.MethodName) ({ cls := "StreamHashDesk", name := "feed", desc := "(II)Z" } : Jvm.MethodName)) ∈ lw_all := lw_g (lw_at lw_m1 107 rfl) rfl
theorem q114 : (Jvm.Cond.code ({ cls := "StreamHashDesk", name := "feed", desc := "(II)Z" } : Jvm.MethodName) prog_12_method_10_code (5 : Nat) (Option.some Jvm.ClassFile.FieldType.boolean)) ∈ lw_all := lw_g (lw_at lw_m1 108 rfl) rfl
theorem q115 : (Jvm.Cond.methodLink "StreamHashDesk" (26 : Nat) ({ cls := "StreamHashDesk", name := "count", desc := "(II)I" } : Jvm.MethodName)) ∈ lw_all := lw_g (lw_at lw_m1 109 rfl) rfl
theorem q116 : (Jvm.Cond.privateMethod ({ cls := "StreamHashDesk", name := "count", desc := "(II)I" } : Jvm.MethodName)) ∈ lw_tbl := lw_at lw_m1 110 rfl
theorem q117 : (Jvm.Cond.instanceMethod ({ cls := "StreamHashDesk", name := "count", desc := "(II)I" } : Jvm.MethodName)) ∈ lw_all := lw_g (lw_at lw_m1 111 rfl) rfl
theorem q118 : (Jvm.Cond.code ({ cls := "StreamHashDesk", name := "count", desc := "(II)I" } : Jvm.MethodName) prog_12_method_6_code (3 : Nat) (Option.some Jvm.ClassFile.FieldType.int)) ∈ lw_all := lw_g (lw_at lw_m1 112 rfl) rfl
theorem q119 : (Jvm.Cond.interfaceEntry "StreamHashDesk" (48 : Nat)) ∈ lw_tbl := lw_at lw_m1 113 rfl
theorem q120 : (Jvm.Cond.methodLink "StreamHashDesk" (48 : Nat) ({ cls := "Hasher", name := "putBytes", desc := "([BII)LHasher;" } : Jvm.MethodName)) ∈ lw_all := lw_g (lw_at lw_m1 114 rfl) rfl
theorem q226 : (Jvm.Cond.instanceMethod ({ cls := "StreamHashDesk", name := "one", desc := "(I)Z" } : Jvm.MethodName)) ∈ lw_all := lw_g (lw_at lw_m1 220 rfl) rfl
theorem q227 : (Jvm.Cond.selects "StreamHashDesk" ({ cls := "StreamHashDesk", name := "one", desc := "(I)Z" } : Jvm.MethodName) ({ cls := "StreamHashDesk", name := "one", desc := "(I)Z" } : Jvm.MethodName)) ∈ lw_all := lw_g (lw_at lw_m1 221 rfl) rfl
theorem q228 : (Jvm.Cond.code ({ cls := "StreamHashDesk", name := "one", desc := "(I)Z" } : Jvm.MethodName) prog_12_method_11_code (2 : Nat) (Option.some Jvm.ClassFile.FieldType.boolean)) ∈ lw_all := lw_g (lw_at lw_m1 222 rfl) rfl
theorem q229 : (Jvm.Cond.interfaceEntry "StreamHashDesk" (54 : Nat)) ∈ lw_tbl := lw_at lw_m1 223 rfl
theorem q230 : (Jvm.Cond.methodLink "StreamHashDesk" (54 : Nat) ({ cls := "Hasher", name := "putByte", desc := "(B)LHasher;" } : Jvm.MethodName)) ∈ lw_all := lw_g (lw_at lw_m1 224 rfl) rfl
theorem q237 : (Jvm.Cond.instanceMethod ({ cls := "StreamHashDesk", name := "word", desc := "(I)Z" } : Jvm.MethodName)) ∈ lw_all := lw_g (lw_at lw_m1 231 rfl) rfl
theorem q238 : (Jvm.Cond.selects "StreamHashDesk" ({ cls := "StreamHashDesk", name := "word", desc := "(I)Z" } : Jvm.MethodName) ({ cls := "StreamHashDesk", name := "word", desc := "(I)Z" } : Jvm.MethodName)) ∈ lw_all := lw_g (lw_at lw_m1 232 rfl) rfl
theorem q239 : (Jvm.Cond.code ({ cls := "StreamHashDesk", name := "word", desc := "(I)Z" } : Jvm.MethodName) prog_12_method_12_code (2 : Nat) (Option.some Jvm.ClassFile.FieldType.boolean)) ∈ lw_all := lw_g (lw_at lw_m1 233 rfl) rfl
theorem q240 : (Jvm.Cond.interfaceEntry "StreamHashDesk" (58 : Nat)) ∈ lw_tbl := lw_at lw_m1 234 rfl
theorem q241 : (Jvm.Cond.methodLink "StreamHashDesk" (58 : Nat) ({ cls := "Hasher", name := "putInt", desc := "(I)LHasher;" } : Jvm.MethodName)) ∈ lw_all := lw_g (lw_at lw_m1 235 rfl) rfl
theorem q250 : (Jvm.Cond.instanceMethod ({ cls := "StreamHashDesk", name := "wide", desc := "(II)Z" } : Jvm.MethodName)) ∈ lw_all := lw_g (lw_at lw_m2 4 rfl) rfl
theorem q251 : (Jvm.Cond.selects "StreamHashDesk" ({ cls := "StreamHashDesk", name := "wide", desc := "(II)Z" } : Jvm.MethodName) ({ cls := "StreamHashDesk", name := "wide", desc := "(II)Z" } : Jvm.MethodName)) ∈ lw_all := lw_g (lw_at lw_m2 5 rfl) rfl
theorem q252 : (Jvm.Cond.code ({ cls := "StreamHashDesk", name := "wide", desc := "(II)Z" } : Jvm.MethodName) prog_12_method_13_code (3 : Nat) (Option.some Jvm.ClassFile.FieldType.boolean)) ∈ lw_all := lw_g (lw_at lw_m2 6 rfl) rfl
theorem q253 : (Jvm.Cond.methodLink "StreamHashDesk" (62 : Nat) ({ cls := "StreamHashDesk", name := "of", desc := "(II)J" } : Jvm.MethodName)) ∈ lw_all := lw_g (lw_at lw_m2 7 rfl) rfl
theorem q254 : (Jvm.Cond.static ({ cls := "StreamHashDesk", name := "of", desc := "(II)J" } : Jvm.MethodName)) ∈ lw_all := lw_g (lw_at lw_m2 8 rfl) rfl
theorem q255 : (Jvm.Cond.code ({ cls := "StreamHashDesk", name := "of", desc := "(II)J" } : Jvm.MethodName) prog_12_method_8_code (2 : Nat) (Option.some Jvm.ClassFile.FieldType.long)) ∈ lw_all := lw_g (lw_at lw_m2 9 rfl) rfl
theorem q256 : (Jvm.Cond.constantLong "StreamHashDesk" (30 : Nat) (4294967295 : Int64)) ∈ lw_all := lw_g (lw_at lw_m2 10 rfl) rfl
theorem q257 : (Jvm.Cond.interfaceEntry "StreamHashDesk" (66 : Nat)) ∈ lw_tbl := lw_at lw_m2 11 rfl
theorem q258 : (Jvm.Cond.methodLink "StreamHashDesk" (66 : Nat) ({ cls := "Hasher", name := "putLong", desc := "(J)LHasher;" } : Jvm.MethodName)) ∈ lw_all := lw_g (lw_at lw_m2 12 rfl) rfl
theorem q267 : (Jvm.Cond.instanceMethod ({ cls := "StreamHashDesk", name := "close", desc := "()I" } : Jvm.MethodName)) ∈ lw_all := lw_g (lw_at lw_m2 21 rfl) rfl
theorem q268 : (Jvm.Cond.selects "StreamHashDesk" ({ cls := "StreamHashDesk", name := "close", desc := "()I" } : Jvm.MethodName) ({ cls := "StreamHashDesk", name := "close", desc := "()I" } : Jvm.MethodName)) ∈ lw_all := lw_g (lw_at lw_m2 22 rfl) rfl
theorem q269 : (Jvm.Cond.code ({ cls := "StreamHashDesk", name := "close", desc := "()I" } : Jvm.MethodName) prog_12_method_14_code (2 : Nat) (Option.some Jvm.ClassFile.FieldType.int)) ∈ lw_all := lw_g (lw_at lw_m2 23 rfl) rfl
theorem q270 : (Jvm.Cond.interfaceEntry "StreamHashDesk" (70 : Nat)) ∈ lw_tbl := lw_at lw_m2 24 rfl
theorem q271 : (Jvm.Cond.methodLink "StreamHashDesk" (70 : Nat) ({ cls := "Hasher", name := "hash", desc := "()LHashCode;" } : Jvm.MethodName)) ∈ lw_all := lw_g (lw_at lw_m2 25 rfl) rfl
theorem q324 : (Jvm.Cond.methodLink "StreamHashDesk" (74 : Nat) ({ cls := "HashCode", name := "asInt", desc := "()I" } : Jvm.MethodName)) ∈ lw_all := lw_g (lw_at lw_m2 78 rfl) rfl
theorem q331 : (Jvm.Cond.instanceMethod ({ cls := "StreamHashDesk", name := "whole", desc := "(III)I" } : Jvm.MethodName)) ∈ lw_all := lw_g (lw_at lw_m2 85 rfl) rfl
theorem q332 : (Jvm.Cond.selects "StreamHashDesk" ({ cls := "StreamHashDesk", name := "whole", desc := "(III)I" } : Jvm.MethodName) ({ cls := "StreamHashDesk", name := "whole", desc := "(III)I" } : Jvm.MethodName)) ∈ lw_all := lw_g (lw_at lw_m2 86 rfl) rfl
theorem q333 : (Jvm.Cond.code ({ cls := "StreamHashDesk", name := "whole", desc := "(III)I" } : Jvm.MethodName) prog_12_method_15_code (6 : Nat) (Option.some Jvm.ClassFile.FieldType.int)) ∈ lw_all := lw_g (lw_at lw_m2 87 rfl) rfl
theorem q334 : (Jvm.Cond.methodLink "StreamHashDesk" (80 : Nat) ({ cls := "Murmur3_32HashFunction", name := "hashBytes", desc := "([BII)LHashCode;" } : Jvm.MethodName)) ∈ lw_all := lw_g (lw_at lw_m2 88 rfl) rfl
theorem q347 : (Jvm.Cond.instanceMethod ({ cls := "StreamHashDesk", name := "ofWord", desc := "(II)I" } : Jvm.MethodName)) ∈ lw_all := lw_g (lw_at lw_m2 101 rfl) rfl
theorem q348 : (Jvm.Cond.selects "StreamHashDesk" ({ cls := "StreamHashDesk", name := "ofWord", desc := "(II)I" } : Jvm.MethodName) ({ cls := "StreamHashDesk", name := "ofWord", desc := "(II)I" } : Jvm.MethodName)) ∈ lw_all := lw_g (lw_at lw_m2 102 rfl) rfl
theorem q349 : (Jvm.Cond.code ({ cls := "StreamHashDesk", name := "ofWord", desc := "(II)I" } : Jvm.MethodName) prog_12_method_16_code (3 : Nat) (Option.some Jvm.ClassFile.FieldType.int)) ∈ lw_all := lw_g (lw_at lw_m2 103 rfl) rfl
theorem q350 : (Jvm.Cond.methodLink "StreamHashDesk" (84 : Nat) ({ cls := "Murmur3_32HashFunction", name := "hashInt", desc := "(I)LHashCode;" } : Jvm.MethodName)) ∈ lw_all := lw_g (lw_at lw_m2 104 rfl) rfl
theorem q355 : (Jvm.Cond.instanceMethod ({ cls := "StreamHashDesk", name := "ofWide", desc := "(III)I" } : Jvm.MethodName)) ∈ lw_all := lw_g (lw_at lw_m2 109 rfl) rfl
theorem q356 : (Jvm.Cond.selects "StreamHashDesk" ({ cls := "StreamHashDesk", name := "ofWide", desc := "(III)I" } : Jvm.MethodName) ({ cls := "StreamHashDesk", name := "ofWide", desc := "(III)I" } : Jvm.MethodName)) ∈ lw_all := lw_g (lw_at lw_m2 110 rfl) rfl
theorem q357 : (Jvm.Cond.code ({ cls := "StreamHashDesk", name := "ofWide", desc := "(III)I" } : Jvm.MethodName) prog_12_method_17_code (4 : Nat) (Option.some Jvm.ClassFile.FieldType.int)) ∈ lw_all := lw_g (lw_at lw_m2 111 rfl) rfl
theorem q358 : (Jvm.Cond.methodLink "StreamHashDesk" (88 : Nat) ({ cls := "Murmur3_32HashFunction", name := "hashLong", desc := "(J)LHashCode;" } : Jvm.MethodName)) ∈ lw_all := lw_g (lw_at lw_m2 112 rfl) rfl
theorem in_X1 : ∀ w ∈ wsX10, w ∈ lw_all := lw_in wsX10 [36, 38, 40, 42] (by decide +kernel) (by decide +kernel)
/-! StreamHashDeskLaw -/
def RX0 : String := "StreamHashDeskLaw"
def TX0 : u_T := fun k => match k with
  | 0 => ("StreamHashDeskLaw", "fed", "[B", false)
  | 1 => ("StreamHashDeskLaw", "size", "I", false)
  | _ => ("StreamHashDeskLaw", "seed", "I", false)
def tyX0 : Nat → FieldType := fun k => match k with
  | 0 => .array .byte
  | 1 => .int
  | _ => .int
abbrev wsX00 : List Cond := u_ws RX0 TX0 3
theorem nmX0 : ∀ a, a < 3 → ∀ b, b < 3 → a ≠ b → (TX0 a).2.1 ≠ (TX0 b).2.1 := by decide +kernel
theorem tyX0_ok : ∀ k, k < 3 → parseFieldDescriptor (TX0 k).2.2.1 = some (tyX0 k) := by decide +kernel
abbrev cX0_init : ByteArray := method_1_code
def yX0_init : MethodName := ⟨RX0, "<init>", "()V"⟩
theorem dX0_init_0 : decode cX0_init 0 = .ok (.aload_n 0, 1) := by decide +kernel
theorem dX0_init_1 : decode cX0_init 1 = .ok (.invokespecial 1, 3) := by decide +kernel
theorem dX0_init_4 : decode cX0_init 4 = .ok (.aload_n 0, 1) := by decide +kernel
theorem dX0_init_5 : decode cX0_init 5 = .ok (.sipush 4096, 3) := by decide +kernel
theorem dX0_init_8 : decode cX0_init 8 = .ok (.newarray .byte, 2) := by decide +kernel
theorem dX0_init_10 : decode cX0_init 10 = .ok (.putfield 7, 3) := by decide +kernel
theorem dX0_init_13 : decode cX0_init 13 = .ok (.aload_n 0, 1) := by decide +kernel
theorem dX0_init_14 : decode cX0_init 14 = .ok (.iconst (-1), 1) := by decide +kernel
theorem dX0_init_15 : decode cX0_init 15 = .ok (.putfield 13, 3) := by decide +kernel
theorem dX0_init_18 : decode cX0_init 18 = .ok (.return_, 1) := by decide +kernel
abbrev cX0_cell : ByteArray := method_2_code
def yX0_cell : MethodName := ⟨RX0, "cell", "([II)I"⟩
theorem dX0_cell_0 : decode cX0_cell 0 = .ok (.iload_n 1, 1) := by decide +kernel
theorem dX0_cell_1 : decode cX0_cell 1 = .ok (.aload_n 0, 1) := by decide +kernel
theorem dX0_cell_2 : decode cX0_cell 2 = .ok (.arraylength, 1) := by decide +kernel
theorem dX0_cell_3 : decode cX0_cell 3 = .ok (.if_icmp .ge 9, 3) := by decide +kernel
theorem dX0_cell_6 : decode cX0_cell 6 = .ok (.aload_n 0, 1) := by decide +kernel
theorem dX0_cell_7 : decode cX0_cell 7 = .ok (.iload_n 1, 1) := by decide +kernel
theorem dX0_cell_8 : decode cX0_cell 8 = .ok (.iaload, 1) := by decide +kernel
theorem dX0_cell_9 : decode cX0_cell 9 = .ok (.goto 4, 3) := by decide +kernel
theorem dX0_cell_12 : decode cX0_cell 12 = .ok (.iconst 0, 1) := by decide +kernel
theorem dX0_cell_13 : decode cX0_cell 13 = .ok (.ireturn, 1) := by decide +kernel
abbrev cX0_mod : ByteArray := method_3_code
def yX0_mod : MethodName := ⟨RX0, "mod", "(II)I"⟩
theorem dX0_mod_0 : decode cX0_mod 0 = .ok (.iload_n 0, 1) := by decide +kernel
theorem dX0_mod_1 : decode cX0_mod 1 = .ok (.ldc 17, 2) := by decide +kernel
theorem dX0_mod_3 : decode cX0_mod 3 = .ok (.iand, 1) := by decide +kernel
theorem dX0_mod_4 : decode cX0_mod 4 = .ok (.iload_n 1, 1) := by decide +kernel
theorem dX0_mod_5 : decode cX0_mod 5 = .ok (.irem, 1) := by decide +kernel
theorem dX0_mod_6 : decode cX0_mod 6 = .ok (.ireturn, 1) := by decide +kernel
abbrev cX0_due : ByteArray := method_5_code
def yX0_due : MethodName := ⟨RX0, "due", "([BII)I"⟩
theorem dX0_due_0 : decode cX0_due 0 = .ok (.iload_n 2, 1) := by decide +kernel
theorem dX0_due_1 : decode cX0_due 1 = .ok (.istore_n 3, 1) := by decide +kernel
theorem dX0_due_2 : decode cX0_due 2 = .ok (.iconst 0, 1) := by decide +kernel
theorem dX0_due_3 : decode cX0_due 3 = .ok (.istore 4, 2) := by decide +kernel
theorem dX0_due_5 : decode cX0_due 5 = .ok (.iconst 0, 1) := by decide +kernel
theorem dX0_due_6 : decode cX0_due 6 = .ok (.istore 5, 2) := by decide +kernel
theorem dX0_due_8 : decode cX0_due 8 = .ok (.iload 5, 2) := by decide +kernel
theorem dX0_due_10 : decode cX0_due 10 = .ok (.iconst 4, 1) := by decide +kernel
theorem dX0_due_11 : decode cX0_due 11 = .ok (.iadd, 1) := by decide +kernel
theorem dX0_due_12 : decode cX0_due 12 = .ok (.iload_n 1, 1) := by decide +kernel
theorem dX0_due_13 : decode cX0_due 13 = .ok (.if_icmp .gt 76, 3) := by decide +kernel
theorem dX0_due_16 : decode cX0_due 16 = .ok (.iload_n 3, 1) := by decide +kernel
theorem dX0_due_17 : decode cX0_due 17 = .ok (.aload_n 0, 1) := by decide +kernel
theorem dX0_due_18 : decode cX0_due 18 = .ok (.iload 5, 2) := by decide +kernel
theorem dX0_due_20 : decode cX0_due 20 = .ok (.baload, 1) := by decide +kernel
theorem dX0_due_21 : decode cX0_due 21 = .ok (.sipush 255, 3) := by decide +kernel
theorem dX0_due_24 : decode cX0_due 24 = .ok (.iand, 1) := by decide +kernel
theorem dX0_due_25 : decode cX0_due 25 = .ok (.aload_n 0, 1) := by decide +kernel
theorem dX0_due_26 : decode cX0_due 26 = .ok (.iload 5, 2) := by decide +kernel
theorem dX0_due_28 : decode cX0_due 28 = .ok (.iconst 1, 1) := by decide +kernel
theorem dX0_due_29 : decode cX0_due 29 = .ok (.iadd, 1) := by decide +kernel
theorem dX0_due_30 : decode cX0_due 30 = .ok (.baload, 1) := by decide +kernel
theorem dX0_due_31 : decode cX0_due 31 = .ok (.sipush 255, 3) := by decide +kernel
theorem dX0_due_34 : decode cX0_due 34 = .ok (.iand, 1) := by decide +kernel
theorem dX0_due_35 : decode cX0_due 35 = .ok (.bipush 8, 2) := by decide +kernel
theorem dX0_due_37 : decode cX0_due 37 = .ok (.ishl, 1) := by decide +kernel
theorem dX0_due_38 : decode cX0_due 38 = .ok (.ior, 1) := by decide +kernel
theorem dX0_due_39 : decode cX0_due 39 = .ok (.aload_n 0, 1) := by decide +kernel
theorem dX0_due_40 : decode cX0_due 40 = .ok (.iload 5, 2) := by decide +kernel
theorem dX0_due_42 : decode cX0_due 42 = .ok (.iconst 2, 1) := by decide +kernel
theorem dX0_due_43 : decode cX0_due 43 = .ok (.iadd, 1) := by decide +kernel
theorem dX0_due_44 : decode cX0_due 44 = .ok (.baload, 1) := by decide +kernel
theorem dX0_due_45 : decode cX0_due 45 = .ok (.sipush 255, 3) := by decide +kernel
theorem dX0_due_48 : decode cX0_due 48 = .ok (.iand, 1) := by decide +kernel
theorem dX0_due_49 : decode cX0_due 49 = .ok (.bipush 16, 2) := by decide +kernel
theorem dX0_due_51 : decode cX0_due 51 = .ok (.ishl, 1) := by decide +kernel
theorem dX0_due_52 : decode cX0_due 52 = .ok (.ior, 1) := by decide +kernel
theorem dX0_due_53 : decode cX0_due 53 = .ok (.aload_n 0, 1) := by decide +kernel
theorem dX0_due_54 : decode cX0_due 54 = .ok (.iload 5, 2) := by decide +kernel
theorem dX0_due_56 : decode cX0_due 56 = .ok (.iconst 3, 1) := by decide +kernel
theorem dX0_due_57 : decode cX0_due 57 = .ok (.iadd, 1) := by decide +kernel
theorem dX0_due_58 : decode cX0_due 58 = .ok (.baload, 1) := by decide +kernel
theorem dX0_due_59 : decode cX0_due 59 = .ok (.bipush 24, 2) := by decide +kernel
theorem dX0_due_61 : decode cX0_due 61 = .ok (.ishl, 1) := by decide +kernel
theorem dX0_due_62 : decode cX0_due 62 = .ok (.ior, 1) := by decide +kernel
theorem dX0_due_63 : decode cX0_due 63 = .ok (.invokestatic 20, 3) := by decide +kernel
theorem dX0_due_66 : decode cX0_due 66 = .ok (.ixor, 1) := by decide +kernel
theorem dX0_due_67 : decode cX0_due 67 = .ok (.istore_n 3, 1) := by decide +kernel
theorem dX0_due_68 : decode cX0_due 68 = .ok (.iload_n 3, 1) := by decide +kernel
theorem dX0_due_69 : decode cX0_due 69 = .ok (.bipush 13, 2) := by decide +kernel
theorem dX0_due_71 : decode cX0_due 71 = .ok (.ishl, 1) := by decide +kernel
theorem dX0_due_72 : decode cX0_due 72 = .ok (.iload_n 3, 1) := by decide +kernel
theorem dX0_due_73 : decode cX0_due 73 = .ok (.bipush 19, 2) := by decide +kernel
theorem dX0_due_75 : decode cX0_due 75 = .ok (.iushr, 1) := by decide +kernel
theorem dX0_due_76 : decode cX0_due 76 = .ok (.ior, 1) := by decide +kernel
theorem dX0_due_77 : decode cX0_due 77 = .ok (.iconst 5, 1) := by decide +kernel
theorem dX0_due_78 : decode cX0_due 78 = .ok (.imul, 1) := by decide +kernel
theorem dX0_due_79 : decode cX0_due 79 = .ok (.ldc 24, 2) := by decide +kernel
theorem dX0_due_81 : decode cX0_due 81 = .ok (.iadd, 1) := by decide +kernel
theorem dX0_due_82 : decode cX0_due 82 = .ok (.istore_n 3, 1) := by decide +kernel
theorem dX0_due_83 : decode cX0_due 83 = .ok (.iinc 5 4, 3) := by decide +kernel
theorem dX0_due_86 : decode cX0_due 86 = .ok (.goto (-78), 3) := by decide +kernel
theorem dX0_due_89 : decode cX0_due 89 = .ok (.iload_n 1, 1) := by decide +kernel
theorem dX0_due_90 : decode cX0_due 90 = .ok (.iconst 1, 1) := by decide +kernel
theorem dX0_due_91 : decode cX0_due 91 = .ok (.isub, 1) := by decide +kernel
theorem dX0_due_92 : decode cX0_due 92 = .ok (.istore 5, 2) := by decide +kernel
theorem dX0_due_94 : decode cX0_due 94 = .ok (.iload 5, 2) := by decide +kernel
theorem dX0_due_96 : decode cX0_due 96 = .ok (.iload_n 1, 1) := by decide +kernel
theorem dX0_due_97 : decode cX0_due 97 = .ok (.iload_n 1, 1) := by decide +kernel
theorem dX0_due_98 : decode cX0_due 98 = .ok (.iconst 4, 1) := by decide +kernel
theorem dX0_due_99 : decode cX0_due 99 = .ok (.irem, 1) := by decide +kernel
theorem dX0_due_100 : decode cX0_due 100 = .ok (.isub, 1) := by decide +kernel
theorem dX0_due_101 : decode cX0_due 101 = .ok (.if_icmp .lt 25, 3) := by decide +kernel
theorem dX0_due_104 : decode cX0_due 104 = .ok (.iload 4, 2) := by decide +kernel
theorem dX0_due_106 : decode cX0_due 106 = .ok (.bipush 8, 2) := by decide +kernel
theorem dX0_due_108 : decode cX0_due 108 = .ok (.ishl, 1) := by decide +kernel
theorem dX0_due_109 : decode cX0_due 109 = .ok (.aload_n 0, 1) := by decide +kernel
theorem dX0_due_110 : decode cX0_due 110 = .ok (.iload 5, 2) := by decide +kernel
theorem dX0_due_112 : decode cX0_due 112 = .ok (.baload, 1) := by decide +kernel
theorem dX0_due_113 : decode cX0_due 113 = .ok (.sipush 255, 3) := by decide +kernel
theorem dX0_due_116 : decode cX0_due 116 = .ok (.iand, 1) := by decide +kernel
theorem dX0_due_117 : decode cX0_due 117 = .ok (.ior, 1) := by decide +kernel
theorem dX0_due_118 : decode cX0_due 118 = .ok (.istore 4, 2) := by decide +kernel
theorem dX0_due_120 : decode cX0_due 120 = .ok (.iinc 5 (-1), 3) := by decide +kernel
theorem dX0_due_123 : decode cX0_due 123 = .ok (.goto (-29), 3) := by decide +kernel
theorem dX0_due_126 : decode cX0_due 126 = .ok (.iload_n 3, 1) := by decide +kernel
theorem dX0_due_127 : decode cX0_due 127 = .ok (.iload 4, 2) := by decide +kernel
theorem dX0_due_129 : decode cX0_due 129 = .ok (.invokestatic 20, 3) := by decide +kernel
theorem dX0_due_132 : decode cX0_due 132 = .ok (.ixor, 1) := by decide +kernel
theorem dX0_due_133 : decode cX0_due 133 = .ok (.iload_n 1, 1) := by decide +kernel
theorem dX0_due_134 : decode cX0_due 134 = .ok (.ixor, 1) := by decide +kernel
theorem dX0_due_135 : decode cX0_due 135 = .ok (.istore_n 3, 1) := by decide +kernel
theorem dX0_due_136 : decode cX0_due 136 = .ok (.iload_n 3, 1) := by decide +kernel
theorem dX0_due_137 : decode cX0_due 137 = .ok (.iload_n 3, 1) := by decide +kernel
theorem dX0_due_138 : decode cX0_due 138 = .ok (.bipush 16, 2) := by decide +kernel
theorem dX0_due_140 : decode cX0_due 140 = .ok (.iushr, 1) := by decide +kernel
theorem dX0_due_141 : decode cX0_due 141 = .ok (.ixor, 1) := by decide +kernel
theorem dX0_due_142 : decode cX0_due 142 = .ok (.ldc 25, 2) := by decide +kernel
theorem dX0_due_144 : decode cX0_due 144 = .ok (.imul, 1) := by decide +kernel
theorem dX0_due_145 : decode cX0_due 145 = .ok (.istore_n 3, 1) := by decide +kernel
theorem dX0_due_146 : decode cX0_due 146 = .ok (.iload_n 3, 1) := by decide +kernel
theorem dX0_due_147 : decode cX0_due 147 = .ok (.iload_n 3, 1) := by decide +kernel
theorem dX0_due_148 : decode cX0_due 148 = .ok (.bipush 13, 2) := by decide +kernel
theorem dX0_due_150 : decode cX0_due 150 = .ok (.iushr, 1) := by decide +kernel
theorem dX0_due_151 : decode cX0_due 151 = .ok (.ixor, 1) := by decide +kernel
theorem dX0_due_152 : decode cX0_due 152 = .ok (.ldc 26, 2) := by decide +kernel
theorem dX0_due_154 : decode cX0_due 154 = .ok (.imul, 1) := by decide +kernel
theorem dX0_due_155 : decode cX0_due 155 = .ok (.istore_n 3, 1) := by decide +kernel
theorem dX0_due_156 : decode cX0_due 156 = .ok (.iload_n 3, 1) := by decide +kernel
theorem dX0_due_157 : decode cX0_due 157 = .ok (.iload_n 3, 1) := by decide +kernel
theorem dX0_due_158 : decode cX0_due 158 = .ok (.bipush 16, 2) := by decide +kernel
theorem dX0_due_160 : decode cX0_due 160 = .ok (.iushr, 1) := by decide +kernel
theorem dX0_due_161 : decode cX0_due 161 = .ok (.ixor, 1) := by decide +kernel
theorem dX0_due_162 : decode cX0_due 162 = .ok (.ireturn, 1) := by decide +kernel
abbrev cX0_mixed : ByteArray := method_4_code
def yX0_mixed : MethodName := ⟨RX0, "mixed", "(I)I"⟩
theorem dX0_mixed_0 : decode cX0_mixed 0 = .ok (.iload_n 0, 1) := by decide +kernel
theorem dX0_mixed_1 : decode cX0_mixed 1 = .ok (.ldc 18, 2) := by decide +kernel
theorem dX0_mixed_3 : decode cX0_mixed 3 = .ok (.imul, 1) := by decide +kernel
theorem dX0_mixed_4 : decode cX0_mixed 4 = .ok (.istore_n 1, 1) := by decide +kernel
theorem dX0_mixed_5 : decode cX0_mixed 5 = .ok (.iload_n 1, 1) := by decide +kernel
theorem dX0_mixed_6 : decode cX0_mixed 6 = .ok (.bipush 15, 2) := by decide +kernel
theorem dX0_mixed_8 : decode cX0_mixed 8 = .ok (.ishl, 1) := by decide +kernel
theorem dX0_mixed_9 : decode cX0_mixed 9 = .ok (.iload_n 1, 1) := by decide +kernel
theorem dX0_mixed_10 : decode cX0_mixed 10 = .ok (.bipush 17, 2) := by decide +kernel
theorem dX0_mixed_12 : decode cX0_mixed 12 = .ok (.iushr, 1) := by decide +kernel
theorem dX0_mixed_13 : decode cX0_mixed 13 = .ok (.ior, 1) := by decide +kernel
theorem dX0_mixed_14 : decode cX0_mixed 14 = .ok (.ldc 19, 2) := by decide +kernel
theorem dX0_mixed_16 : decode cX0_mixed 16 = .ok (.imul, 1) := by decide +kernel
theorem dX0_mixed_17 : decode cX0_mixed 17 = .ok (.ireturn, 1) := by decide +kernel
abbrev cX0_bytes : ByteArray := method_6_code
def yX0_bytes : MethodName := ⟨RX0, "bytes", "(JI)[B"⟩
theorem dX0_bytes_0 : decode cX0_bytes 0 = .ok (.iload_n 2, 1) := by decide +kernel
theorem dX0_bytes_1 : decode cX0_bytes 1 = .ok (.newarray .byte, 2) := by decide +kernel
theorem dX0_bytes_3 : decode cX0_bytes 3 = .ok (.astore_n 3, 1) := by decide +kernel
theorem dX0_bytes_4 : decode cX0_bytes 4 = .ok (.iconst 0, 1) := by decide +kernel
theorem dX0_bytes_5 : decode cX0_bytes 5 = .ok (.istore 4, 2) := by decide +kernel
theorem dX0_bytes_7 : decode cX0_bytes 7 = .ok (.iload 4, 2) := by decide +kernel
theorem dX0_bytes_9 : decode cX0_bytes 9 = .ok (.iload_n 2, 1) := by decide +kernel
theorem dX0_bytes_10 : decode cX0_bytes 10 = .ok (.if_icmp .ge 22, 3) := by decide +kernel
theorem dX0_bytes_13 : decode cX0_bytes 13 = .ok (.aload_n 3, 1) := by decide +kernel
theorem dX0_bytes_14 : decode cX0_bytes 14 = .ok (.iload 4, 2) := by decide +kernel
theorem dX0_bytes_16 : decode cX0_bytes 16 = .ok (.lload_n 0, 1) := by decide +kernel
theorem dX0_bytes_17 : decode cX0_bytes 17 = .ok (.bipush 8, 2) := by decide +kernel
theorem dX0_bytes_19 : decode cX0_bytes 19 = .ok (.iload 4, 2) := by decide +kernel
theorem dX0_bytes_21 : decode cX0_bytes 21 = .ok (.imul, 1) := by decide +kernel
theorem dX0_bytes_22 : decode cX0_bytes 22 = .ok (.lushr, 1) := by decide +kernel
theorem dX0_bytes_23 : decode cX0_bytes 23 = .ok (.l2i, 1) := by decide +kernel
theorem dX0_bytes_24 : decode cX0_bytes 24 = .ok (.i2b, 1) := by decide +kernel
theorem dX0_bytes_25 : decode cX0_bytes 25 = .ok (.bastore, 1) := by decide +kernel
theorem dX0_bytes_26 : decode cX0_bytes 26 = .ok (.iinc 4 1, 3) := by decide +kernel
theorem dX0_bytes_29 : decode cX0_bytes 29 = .ok (.goto (-22), 3) := by decide +kernel
theorem dX0_bytes_32 : decode cX0_bytes 32 = .ok (.aload_n 3, 1) := by decide +kernel
theorem dX0_bytes_33 : decode cX0_bytes 33 = .ok (.areturn, 1) := by decide +kernel
abbrev cX0_part : ByteArray := method_7_code
def yX0_part : MethodName := ⟨RX0, "part", "([BII)[B"⟩
theorem dX0_part_0 : decode cX0_part 0 = .ok (.iload_n 2, 1) := by decide +kernel
theorem dX0_part_1 : decode cX0_part 1 = .ok (.newarray .byte, 2) := by decide +kernel
theorem dX0_part_3 : decode cX0_part 3 = .ok (.astore_n 3, 1) := by decide +kernel
theorem dX0_part_4 : decode cX0_part 4 = .ok (.iconst 0, 1) := by decide +kernel
theorem dX0_part_5 : decode cX0_part 5 = .ok (.istore 4, 2) := by decide +kernel
theorem dX0_part_7 : decode cX0_part 7 = .ok (.iload 4, 2) := by decide +kernel
theorem dX0_part_9 : decode cX0_part 9 = .ok (.iload_n 2, 1) := by decide +kernel
theorem dX0_part_10 : decode cX0_part 10 = .ok (.if_icmp .ge 19, 3) := by decide +kernel
theorem dX0_part_13 : decode cX0_part 13 = .ok (.aload_n 3, 1) := by decide +kernel
theorem dX0_part_14 : decode cX0_part 14 = .ok (.iload 4, 2) := by decide +kernel
theorem dX0_part_16 : decode cX0_part 16 = .ok (.aload_n 0, 1) := by decide +kernel
theorem dX0_part_17 : decode cX0_part 17 = .ok (.iload_n 1, 1) := by decide +kernel
theorem dX0_part_18 : decode cX0_part 18 = .ok (.iload 4, 2) := by decide +kernel
theorem dX0_part_20 : decode cX0_part 20 = .ok (.iadd, 1) := by decide +kernel
theorem dX0_part_21 : decode cX0_part 21 = .ok (.baload, 1) := by decide +kernel
theorem dX0_part_22 : decode cX0_part 22 = .ok (.bastore, 1) := by decide +kernel
theorem dX0_part_23 : decode cX0_part 23 = .ok (.iinc 4 1, 3) := by decide +kernel
theorem dX0_part_26 : decode cX0_part 26 = .ok (.goto (-19), 3) := by decide +kernel
theorem dX0_part_29 : decode cX0_part 29 = .ok (.aload_n 3, 1) := by decide +kernel
theorem dX0_part_30 : decode cX0_part 30 = .ok (.areturn, 1) := by decide +kernel
abbrev cX0_isLet : ByteArray := method_8_code
def yX0_isLet : MethodName := ⟨RX0, "isLet", "(Z[B)Z"⟩
theorem dX0_isLet_0 : decode cX0_isLet 0 = .ok (.aload_n 0, 1) := by decide +kernel
theorem dX0_isLet_1 : decode cX0_isLet 1 = .ok (.getfield 13, 3) := by decide +kernel
theorem dX0_isLet_4 : decode cX0_isLet 4 = .ok (.ifCond .lt 20, 3) := by decide +kernel
theorem dX0_isLet_7 : decode cX0_isLet 7 = .ok (.aload_n 0, 1) := by decide +kernel
theorem dX0_isLet_8 : decode cX0_isLet 8 = .ok (.getfield 13, 3) := by decide +kernel
theorem dX0_isLet_11 : decode cX0_isLet 11 = .ok (.aload_n 2, 1) := by decide +kernel
theorem dX0_isLet_12 : decode cX0_isLet 12 = .ok (.arraylength, 1) := by decide +kernel
theorem dX0_isLet_13 : decode cX0_isLet 13 = .ok (.iadd, 1) := by decide +kernel
theorem dX0_isLet_14 : decode cX0_isLet 14 = .ok (.sipush 4096, 3) := by decide +kernel
theorem dX0_isLet_17 : decode cX0_isLet 17 = .ok (.if_icmp .gt 7, 3) := by decide +kernel
theorem dX0_isLet_20 : decode cX0_isLet 20 = .ok (.iconst 1, 1) := by decide +kernel
theorem dX0_isLet_21 : decode cX0_isLet 21 = .ok (.goto 4, 3) := by decide +kernel
theorem dX0_isLet_24 : decode cX0_isLet 24 = .ok (.iconst 0, 1) := by decide +kernel
theorem dX0_isLet_25 : decode cX0_isLet 25 = .ok (.istore_n 3, 1) := by decide +kernel
theorem dX0_isLet_26 : decode cX0_isLet 26 = .ok (.iload_n 1, 1) := by decide +kernel
theorem dX0_isLet_27 : decode cX0_isLet 27 = .ok (.iload_n 3, 1) := by decide +kernel
theorem dX0_isLet_28 : decode cX0_isLet 28 = .ok (.if_icmp .eq 5, 3) := by decide +kernel
theorem dX0_isLet_31 : decode cX0_isLet 31 = .ok (.iconst 0, 1) := by decide +kernel
theorem dX0_isLet_32 : decode cX0_isLet 32 = .ok (.ireturn, 1) := by decide +kernel
theorem dX0_isLet_33 : decode cX0_isLet 33 = .ok (.iconst 0, 1) := by decide +kernel
theorem dX0_isLet_34 : decode cX0_isLet 34 = .ok (.istore 4, 2) := by decide +kernel
theorem dX0_isLet_36 : decode cX0_isLet 36 = .ok (.iload_n 3, 1) := by decide +kernel
theorem dX0_isLet_37 : decode cX0_isLet 37 = .ok (.ifCond .eq 32, 3) := by decide +kernel
theorem dX0_isLet_40 : decode cX0_isLet 40 = .ok (.iload 4, 2) := by decide +kernel
theorem dX0_isLet_42 : decode cX0_isLet 42 = .ok (.aload_n 2, 1) := by decide +kernel
theorem dX0_isLet_43 : decode cX0_isLet 43 = .ok (.arraylength, 1) := by decide +kernel
theorem dX0_isLet_44 : decode cX0_isLet 44 = .ok (.if_icmp .ge 25, 3) := by decide +kernel
theorem dX0_isLet_47 : decode cX0_isLet 47 = .ok (.aload_n 0, 1) := by decide +kernel
theorem dX0_isLet_48 : decode cX0_isLet 48 = .ok (.getfield 7, 3) := by decide +kernel
theorem dX0_isLet_51 : decode cX0_isLet 51 = .ok (.aload_n 0, 1) := by decide +kernel
theorem dX0_isLet_52 : decode cX0_isLet 52 = .ok (.getfield 13, 3) := by decide +kernel
theorem dX0_isLet_55 : decode cX0_isLet 55 = .ok (.iload 4, 2) := by decide +kernel
theorem dX0_isLet_57 : decode cX0_isLet 57 = .ok (.iadd, 1) := by decide +kernel
theorem dX0_isLet_58 : decode cX0_isLet 58 = .ok (.aload_n 2, 1) := by decide +kernel
theorem dX0_isLet_59 : decode cX0_isLet 59 = .ok (.iload 4, 2) := by decide +kernel
theorem dX0_isLet_61 : decode cX0_isLet 61 = .ok (.baload, 1) := by decide +kernel
theorem dX0_isLet_62 : decode cX0_isLet 62 = .ok (.bastore, 1) := by decide +kernel
theorem dX0_isLet_63 : decode cX0_isLet 63 = .ok (.iinc 4 1, 3) := by decide +kernel
theorem dX0_isLet_66 : decode cX0_isLet 66 = .ok (.goto (-30), 3) := by decide +kernel
theorem dX0_isLet_69 : decode cX0_isLet 69 = .ok (.aload_n 0, 1) := by decide +kernel
theorem dX0_isLet_70 : decode cX0_isLet 70 = .ok (.dup, 1) := by decide +kernel
theorem dX0_isLet_71 : decode cX0_isLet 71 = .ok (.getfield 13, 3) := by decide +kernel
theorem dX0_isLet_74 : decode cX0_isLet 74 = .ok (.iload_n 3, 1) := by decide +kernel
theorem dX0_isLet_75 : decode cX0_isLet 75 = .ok (.ifCond .eq 8, 3) := by decide +kernel
theorem dX0_isLet_78 : decode cX0_isLet 78 = .ok (.aload_n 2, 1) := by decide +kernel
theorem dX0_isLet_79 : decode cX0_isLet 79 = .ok (.arraylength, 1) := by decide +kernel
theorem dX0_isLet_80 : decode cX0_isLet 80 = .ok (.goto 4, 3) := by decide +kernel
theorem dX0_isLet_83 : decode cX0_isLet 83 = .ok (.iconst 0, 1) := by decide +kernel
theorem dX0_isLet_84 : decode cX0_isLet 84 = .ok (.iadd, 1) := by decide +kernel
theorem dX0_isLet_85 : decode cX0_isLet 85 = .ok (.putfield 13, 3) := by decide +kernel
theorem dX0_isLet_88 : decode cX0_isLet 88 = .ok (.iconst 1, 1) := by decide +kernel
theorem dX0_isLet_89 : decode cX0_isLet 89 = .ok (.ireturn, 1) := by decide +kernel
abbrev cX0_closes : ByteArray := method_9_code
def yX0_closes : MethodName := ⟨RX0, "closes", "(LStreamHashDesk;)Z"⟩
theorem dX0_closes_0 : decode cX0_closes 0 = .ok (.aload_n 0, 1) := by decide +kernel
theorem dX0_closes_1 : decode cX0_closes 1 = .ok (.getfield 13, 3) := by decide +kernel
theorem dX0_closes_4 : decode cX0_closes 4 = .ok (.ifCond .ge 7, 3) := by decide +kernel
theorem dX0_closes_7 : decode cX0_closes 7 = .ok (.iconst 0, 1) := by decide +kernel
theorem dX0_closes_8 : decode cX0_closes 8 = .ok (.goto 18, 3) := by decide +kernel
theorem dX0_closes_11 : decode cX0_closes 11 = .ok (.aload_n 0, 1) := by decide +kernel
theorem dX0_closes_12 : decode cX0_closes 12 = .ok (.getfield 7, 3) := by decide +kernel
theorem dX0_closes_15 : decode cX0_closes 15 = .ok (.aload_n 0, 1) := by decide +kernel
theorem dX0_closes_16 : decode cX0_closes 16 = .ok (.getfield 13, 3) := by decide +kernel
theorem dX0_closes_19 : decode cX0_closes 19 = .ok (.aload_n 0, 1) := by decide +kernel
theorem dX0_closes_20 : decode cX0_closes 20 = .ok (.getfield 27, 3) := by decide +kernel
theorem dX0_closes_23 : decode cX0_closes 23 = .ok (.invokestatic 30, 3) := by decide +kernel
theorem dX0_closes_26 : decode cX0_closes 26 = .ok (.istore_n 2, 1) := by decide +kernel
theorem dX0_closes_27 : decode cX0_closes 27 = .ok (.aload_n 0, 1) := by decide +kernel
theorem dX0_closes_28 : decode cX0_closes 28 = .ok (.iconst (-1), 1) := by decide +kernel
theorem dX0_closes_29 : decode cX0_closes 29 = .ok (.putfield 13, 3) := by decide +kernel
theorem dX0_closes_32 : decode cX0_closes 32 = .ok (.aload_n 1, 1) := by decide +kernel
theorem dX0_closes_33 : decode cX0_closes 33 = .ok (.invokevirtual 34, 3) := by decide +kernel
theorem dX0_closes_36 : decode cX0_closes 36 = .ok (.iload_n 2, 1) := by decide +kernel
theorem dX0_closes_37 : decode cX0_closes 37 = .ok (.if_icmp .ne 7, 3) := by decide +kernel
theorem dX0_closes_40 : decode cX0_closes 40 = .ok (.iconst 1, 1) := by decide +kernel
theorem dX0_closes_41 : decode cX0_closes 41 = .ok (.goto 4, 3) := by decide +kernel
theorem dX0_closes_44 : decode cX0_closes 44 = .ok (.iconst 0, 1) := by decide +kernel
theorem dX0_closes_45 : decode cX0_closes 45 = .ok (.ireturn, 1) := by decide +kernel
abbrev cX0_wide : ByteArray := method_10_code
def yX0_wide : MethodName := ⟨RX0, "wide", "(II)J"⟩
theorem dX0_wide_0 : decode cX0_wide 0 = .ok (.iload_n 0, 1) := by decide +kernel
theorem dX0_wide_1 : decode cX0_wide 1 = .ok (.i2l, 1) := by decide +kernel
theorem dX0_wide_2 : decode cX0_wide 2 = .ok (.bipush 32, 2) := by decide +kernel
theorem dX0_wide_4 : decode cX0_wide 4 = .ok (.lshl, 1) := by decide +kernel
theorem dX0_wide_5 : decode cX0_wide 5 = .ok (.iload_n 1, 1) := by decide +kernel
theorem dX0_wide_6 : decode cX0_wide 6 = .ok (.i2l, 1) := by decide +kernel
theorem dX0_wide_7 : decode cX0_wide 7 = .ok (.ldc2_w 40, 3) := by decide +kernel
theorem dX0_wide_10 : decode cX0_wide 10 = .ok (.land, 1) := by decide +kernel
theorem dX0_wide_11 : decode cX0_wide 11 = .ok (.lor, 1) := by decide +kernel
theorem dX0_wide_12 : decode cX0_wide 12 = .ok (.lreturn, 1) := by decide +kernel
theorem q6 : (Jvm.Cond.initialized "StreamHashDeskLaw") ∈ lw_all := lw_g (lw_at lw_m1 0 rfl) rfl
theorem q24 : (Jvm.Cond.classLink "StreamHashDeskLaw" (35 : Nat) "StreamHashDesk") ∈ lw_all := lw_g (lw_at lw_m1 18 rfl) rfl
theorem q26 : (Jvm.Cond.methodLink "StreamHashDeskLaw" (42 : Nat) ({ cls := "StreamHashDesk", name := "<init>", desc := "()V" } : Jvm.MethodName)) ∈ lw_all := lw_g (lw_at lw_m1 20 rfl) rfl
theorem q46 : (Jvm.Cond.methodLink "StreamHashDeskLaw" (61 : Nat) ({ cls := "StreamHashDesk", name := "put", desc := "(IIII)Z" } : Jvm.MethodName)) ∈ lw_all := lw_g (lw_at lw_m1 40 rfl) rfl
theorem q53 : (Jvm.Cond.methodLink "StreamHashDeskLaw" (65 : Nat) ({ cls := "StreamHashDesk", name := "trim", desc := "(I)V" } : Jvm.MethodName)) ∈ lw_all := lw_g (lw_at lw_m1 47 rfl) rfl
theorem q62 : (Jvm.Cond.methodLink "StreamHashDeskLaw" (69 : Nat) ({ cls := "StreamHashDesk", name := "begin", desc := "(I)V" } : Jvm.MethodName)) ∈ lw_all := lw_g (lw_at lw_m1 56 rfl) rfl
theorem q111 : (Jvm.Cond.methodLink "StreamHashDeskLaw" (72 : Nat) ({ cls := "StreamHashDesk", name := "feed", desc := "(II)Z" } : Jvm.MethodName)) ∈ lw_all := lw_g (lw_at lw_m1 105 rfl) rfl
theorem q225 : (Jvm.Cond.methodLink "StreamHashDeskLaw" (49 : Nat) ({ cls := "StreamHashDesk", name := "one", desc := "(I)Z" } : Jvm.MethodName)) ∈ lw_all := lw_g (lw_at lw_m1 219 rfl) rfl
theorem q236 : (Jvm.Cond.methodLink "StreamHashDeskLaw" (88 : Nat) ({ cls := "StreamHashDesk", name := "word", desc := "(I)Z" } : Jvm.MethodName)) ∈ lw_all := lw_g (lw_at lw_m1 230 rfl) rfl
theorem q249 : (Jvm.Cond.methodLink "StreamHashDeskLaw" (91 : Nat) ({ cls := "StreamHashDesk", name := "wide", desc := "(II)Z" } : Jvm.MethodName)) ∈ lw_all := lw_g (lw_at lw_m2 3 rfl) rfl
theorem q266 : (Jvm.Cond.methodLink "StreamHashDeskLaw" (34 : Nat) ({ cls := "StreamHashDesk", name := "close", desc := "()I" } : Jvm.MethodName)) ∈ lw_all := lw_g (lw_at lw_m2 20 rfl) rfl
theorem q330 : (Jvm.Cond.methodLink "StreamHashDeskLaw" (44 : Nat) ({ cls := "StreamHashDesk", name := "whole", desc := "(III)I" } : Jvm.MethodName)) ∈ lw_all := lw_g (lw_at lw_m2 84 rfl) rfl
theorem q346 : (Jvm.Cond.methodLink "StreamHashDeskLaw" (101 : Nat) ({ cls := "StreamHashDesk", name := "ofWord", desc := "(II)I" } : Jvm.MethodName)) ∈ lw_all := lw_g (lw_at lw_m2 100 rfl) rfl
theorem q354 : (Jvm.Cond.methodLink "StreamHashDeskLaw" (104 : Nat) ({ cls := "StreamHashDesk", name := "ofWide", desc := "(III)I" } : Jvm.MethodName)) ∈ lw_all := lw_g (lw_at lw_m2 108 rfl) rfl
theorem q362 : (Jvm.Cond.classLink "StreamHashDeskLaw" (8 : Nat) "StreamHashDeskLaw") ∈ lw_all := lw_g (lw_at lw_m2 116 rfl) rfl
theorem q363 : (Jvm.Cond.instantiable "StreamHashDeskLaw" (3 : Nat)) ∈ lw_all := lw_g (lw_at lw_m2 117 rfl) rfl
theorem q364 : (Jvm.Cond.methodLink "StreamHashDeskLaw" (43 : Nat) ({ cls := "StreamHashDeskLaw", name := "<init>", desc := "()V" } : Jvm.MethodName)) ∈ lw_all := lw_g (lw_at lw_m2 118 rfl) rfl
theorem q365 : (Jvm.Cond.instanceMethod ({ cls := "StreamHashDeskLaw", name := "<init>", desc := "()V" } : Jvm.MethodName)) ∈ lw_all := lw_g (lw_at lw_m2 119 rfl) rfl
theorem q366 : (Jvm.Cond.code ({ cls := "StreamHashDeskLaw", name := "<init>", desc := "()V" } : Jvm.MethodName) method_1_code (1 : Nat) (Option.none : Option Jvm.ClassFile.FieldType)) ∈ lw_all := lw_g (lw_at lw_m2 120 rfl) rfl
theorem q367 : (Jvm.Cond.methodLink "StreamHashDeskLaw" (1 : Nat) ({ cls := "java/lang/Object", name := "<init>", desc := "()V" } : Jvm.MethodName)) ∈ lw_all := lw_g (lw_at lw_m2 121 rfl) rfl
theorem q368 : (Jvm.Cond.fieldLink "StreamHashDeskLaw" (7 : Nat) "StreamHashDeskLaw" "fed" "[B") ∈ lw_all := lw_g (lw_at lw_m2 122 rfl) rfl
theorem q369 : (Jvm.Cond.fieldLink "StreamHashDeskLaw" (13 : Nat) "StreamHashDeskLaw" "size" "I") ∈ lw_all := lw_g (lw_at lw_m2 123 rfl) rfl
theorem q370 : (Jvm.Cond.fieldLink "StreamHashDeskLaw" (27 : Nat) "StreamHashDeskLaw" "seed" "I") ∈ lw_all := lw_g (lw_at lw_m2 124 rfl) rfl
theorem q371 : (Jvm.Cond.lays "StreamHashDeskLaw" "StreamHashDeskLaw" "fed" "[B") ∈ lw_all := lw_g (lw_at lw_m2 125 rfl) rfl
theorem q372 : (Jvm.Cond.soleField "StreamHashDeskLaw" "fed") ∈ lw_all := lw_g (lw_at lw_m2 126 rfl) rfl
theorem q373 : (Jvm.Cond.lays "StreamHashDeskLaw" "StreamHashDeskLaw" "size" "I") ∈ lw_all := lw_g (lw_at lw_m2 127 rfl) rfl
theorem q374 : (Jvm.Cond.soleField "StreamHashDeskLaw" "size") ∈ lw_all := lw_g (lw_at lw_m2 128 rfl) rfl
theorem q375 : (Jvm.Cond.lays "StreamHashDeskLaw" "StreamHashDeskLaw" "seed" "I") ∈ lw_all := lw_g (lw_at lw_m2 129 rfl) rfl
theorem q376 : (Jvm.Cond.soleField "StreamHashDeskLaw" "seed") ∈ lw_all := lw_g (lw_at lw_m2 130 rfl) rfl
theorem q377 : (Jvm.Cond.superclass "StreamHashDeskLaw" "java/lang/Object") ∈ lw_all := lw_g (lw_at lw_m2 131 rfl) rfl
theorem q378 : (Jvm.Cond.methodLink "StreamHashDeskLaw" (53 : Nat) ({ cls := "StreamHashDeskLaw", name := "cell", desc := "([II)I" } : Jvm.MethodName)) ∈ lw_all := lw_g (lw_at lw_m2 132 rfl) rfl
theorem q379 : (Jvm.Cond.static ({ cls := "StreamHashDeskLaw", name := "cell", desc := "([II)I" } : Jvm.MethodName)) ∈ lw_all := lw_g (lw_at lw_m2 133 rfl) rfl
theorem q380 : (Jvm.Cond.code ({ cls := "StreamHashDeskLaw", name := "cell", desc := "([II)I" } : Jvm.MethodName) method_2_code (2 : Nat) (Option.some Jvm.ClassFile.FieldType.int)) ∈ lw_all := lw_g (lw_at lw_m2 134 rfl) rfl
theorem q381 : (Jvm.Cond.methodLink "StreamHashDeskLaw" (57 : Nat) ({ cls := "StreamHashDeskLaw", name := "mod", desc := "(II)I" } : Jvm.MethodName)) ∈ lw_all := lw_g (lw_at lw_m2 135 rfl) rfl
theorem q382 : (Jvm.Cond.static ({ cls := "StreamHashDeskLaw", name := "mod", desc := "(II)I" } : Jvm.MethodName)) ∈ lw_all := lw_g (lw_at lw_m2 136 rfl) rfl
theorem q383 : (Jvm.Cond.code ({ cls := "StreamHashDeskLaw", name := "mod", desc := "(II)I" } : Jvm.MethodName) method_3_code (2 : Nat) (Option.some Jvm.ClassFile.FieldType.int)) ∈ lw_all := lw_g (lw_at lw_m2 137 rfl) rfl
theorem q384 : (Jvm.Cond.constant "StreamHashDeskLaw" (17 : Nat) (2147483647 : Int32)) ∈ lw_all := lw_g (lw_at lw_m2 138 rfl) rfl
theorem q385 : (Jvm.Cond.methodLink "StreamHashDeskLaw" (30 : Nat) ({ cls := "StreamHashDeskLaw", name := "due", desc := "([BII)I" } : Jvm.MethodName)) ∈ lw_all := lw_g (lw_at lw_m2 139 rfl) rfl
theorem q386 : (Jvm.Cond.static ({ cls := "StreamHashDeskLaw", name := "due", desc := "([BII)I" } : Jvm.MethodName)) ∈ lw_all := lw_g (lw_at lw_m2 140 rfl) rfl
theorem q387 : (Jvm.Cond.code ({ cls := "StreamHashDeskLaw", name := "due", desc := "([BII)I" } : Jvm.MethodName) method_5_code (6 : Nat) (Option.some Jvm.ClassFile.FieldType.int)) ∈ lw_all := lw_g (lw_at lw_m2 141 rfl) rfl
theorem q388 : (Jvm.Cond.methodLink "StreamHashDeskLaw" (20 : Nat) ({ cls := "StreamHashDeskLaw", name := "mixed", desc := "(I)I" } : Jvm.MethodName)) ∈ lw_all := lw_g (lw_at lw_m2 142 rfl) rfl
theorem q389 : (Jvm.Cond.static ({ cls := "StreamHashDeskLaw", name := "mixed", desc := "(I)I" } : Jvm.MethodName)) ∈ lw_all := lw_g (lw_at lw_m2 143 rfl) rfl
theorem q390 : (Jvm.Cond.code ({ cls := "StreamHashDeskLaw", name := "mixed", desc := "(I)I" } : Jvm.MethodName) method_4_code (2 : Nat) (Option.some Jvm.ClassFile.FieldType.int)) ∈ lw_all := lw_g (lw_at lw_m2 144 rfl) rfl
theorem q391 : (Jvm.Cond.constant "StreamHashDeskLaw" (18 : Nat) (-862048943 : Int32)) ∈ lw_all := lw_g (lw_at lw_m2 145 rfl) rfl
theorem q392 : (Jvm.Cond.constant "StreamHashDeskLaw" (19 : Nat) (461845907 : Int32)) ∈ lw_all := lw_g (lw_at lw_m2 146 rfl) rfl
theorem q393 : (Jvm.Cond.constant "StreamHashDeskLaw" (24 : Nat) (-430675100 : Int32)) ∈ lw_all := lw_g (lw_at lw_m2 147 rfl) rfl
theorem q394 : (Jvm.Cond.constant "StreamHashDeskLaw" (25 : Nat) (-2048144789 : Int32)) ∈ lw_all := lw_g (lw_at lw_m2 148 rfl) rfl
theorem q395 : (Jvm.Cond.constant "StreamHashDeskLaw" (26 : Nat) (-1028477387 : Int32)) ∈ lw_all := lw_g (lw_at lw_m2 149 rfl) rfl
theorem q396 : (Jvm.Cond.methodLink "StreamHashDeskLaw" (84 : Nat) ({ cls := "StreamHashDeskLaw", name := "bytes", desc := "(JI)[B" } : Jvm.MethodName)) ∈ lw_all := lw_g (lw_at lw_m2 150 rfl) rfl
theorem q397 : (Jvm.Cond.static ({ cls := "StreamHashDeskLaw", name := "bytes", desc := "(JI)[B" } : Jvm.MethodName)) ∈ lw_all := lw_g (lw_at lw_m2 151 rfl) rfl
theorem q398 : (Jvm.Cond.code ({ cls := "StreamHashDeskLaw", name := "bytes", desc := "(JI)[B" } : Jvm.MethodName) method_6_code (5 : Nat) (Option.some (Jvm.ClassFile.FieldType.array Jvm.ClassFile.FieldType.byte))) ∈ lw_all := lw_g (lw_at lw_m2 152 rfl) rfl
theorem q399 : (Jvm.Cond.methodLink "StreamHashDeskLaw" (76 : Nat) ({ cls := "StreamHashDeskLaw", name := "part", desc := "([BII)[B" } : Jvm.MethodName)) ∈ lw_all := lw_g (lw_at lw_m2 153 rfl) rfl
theorem q400 : (Jvm.Cond.static ({ cls := "StreamHashDeskLaw", name := "part", desc := "([BII)[B" } : Jvm.MethodName)) ∈ lw_all := lw_g (lw_at lw_m2 154 rfl) rfl
theorem q401 : (Jvm.Cond.code ({ cls := "StreamHashDeskLaw", name := "part", desc := "([BII)[B" } : Jvm.MethodName) method_7_code (5 : Nat) (Option.some (Jvm.ClassFile.FieldType.array Jvm.ClassFile.FieldType.byte))) ∈ lw_all := lw_g (lw_at lw_m2 155 rfl) rfl
theorem q402 : (Jvm.Cond.methodLink "StreamHashDeskLaw" (80 : Nat) ({ cls := "StreamHashDeskLaw", name := "isLet", desc := "(Z[B)Z" } : Jvm.MethodName)) ∈ lw_all := lw_g (lw_at lw_m2 156 rfl) rfl
theorem q403 : (Jvm.Cond.privateMethod ({ cls := "StreamHashDeskLaw", name := "isLet", desc := "(Z[B)Z" } : Jvm.MethodName)) ∈ lw_tbl := lw_at lw_m2 157 rfl
theorem q404 : (Jvm.Cond.instanceMethod ({ cls := "StreamHashDeskLaw", name := "isLet", desc := "(Z[B)Z" } : Jvm.MethodName)) ∈ lw_all := lw_g (lw_at lw_m2 158 rfl) rfl
theorem q405 : (Jvm.Cond.code ({ cls := "StreamHashDeskLaw", name := "isLet", desc := "(Z[B)Z" } : Jvm.MethodName) method_8_code (5 : Nat) (Option.some Jvm.ClassFile.FieldType.boolean)) ∈ lw_all := lw_g (lw_at lw_m2 159 rfl) rfl
theorem q406 : (Jvm.Cond.methodLink "StreamHashDeskLaw" (97 : Nat) ({ cls := "StreamHashDeskLaw", name := "closes", desc := "(LStreamHashDesk;)Z" } : Jvm.MethodName)) ∈ lw_all := lw_g (lw_at lw_m2 160 rfl) rfl
theorem q407 : (Jvm.Cond.privateMethod ({ cls := "StreamHashDeskLaw", name := "closes", desc := "(LStreamHashDesk;)Z" } : Jvm.MethodName)) ∈ lw_tbl := lw_at lw_m2 161 rfl
theorem q408 : (Jvm.Cond.instanceMethod ({ cls := "StreamHashDeskLaw", name := "closes", desc := "(LStreamHashDesk;)Z" } : Jvm.MethodName)) ∈ lw_all := lw_g (lw_at lw_m2 162 rfl) rfl
theorem q409 : (Jvm.Cond.code ({ cls := "StreamHashDeskLaw", name := "closes", desc := "(LStreamHashDesk;)Z" } : Jvm.MethodName) method_9_code (3 : Nat) (Option.some Jvm.ClassFile.FieldType.boolean)) ∈ lw_all := lw_g (lw_at lw_m2 163 rfl) rfl
theorem q410 : (Jvm.Cond.methodLink "StreamHashDeskLaw" (94 : Nat) ({ cls := "StreamHashDeskLaw", name := "wide", desc := "(II)J" } : Jvm.MethodName)) ∈ lw_all := lw_g (lw_at lw_m2 164 rfl) rfl
theorem q411 : (Jvm.Cond.static ({ cls := "StreamHashDeskLaw", name := "wide", desc := "(II)J" } : Jvm.MethodName)) ∈ lw_all := lw_g (lw_at lw_m2 165 rfl) rfl
theorem q412 : (Jvm.Cond.code ({ cls := "StreamHashDeskLaw", name := "wide", desc := "(II)J" } : Jvm.MethodName) method_10_code (2 : Nat) (Option.some Jvm.ClassFile.FieldType.long)) ∈ lw_all := lw_g (lw_at lw_m2 166 rfl) rfl
theorem q413 : (Jvm.Cond.constantLong "StreamHashDeskLaw" (40 : Nat) (4294967295 : Int64)) ∈ lw_all := lw_g (lw_at lw_m2 167 rfl) rfl
theorem q414 : (Jvm.Cond.constant "StreamHashDeskLaw" (48 : Nat) (1364076727 : Int32)) ∈ lw_all := lw_g (lw_at lw_m2 168 rfl) rfl
theorem in_X0 : ∀ w ∈ wsX00, w ∈ lw_all := lw_in wsX00 [371, 373, 375] (by decide +kernel) (by decide +kernel)
end
section
set_option maxRecDepth 100000
/-! the law's own entry -/
abbrev cL_law : ByteArray := code
theorem dL_law_0 : decode cL_law 0 = .ok (.new 35, 3) := by decide +kernel
theorem dL_law_3 : decode cL_law 3 = .ok (.dup, 1) := by decide +kernel
theorem dL_law_4 : decode cL_law 4 = .ok (.invokespecial 42, 3) := by decide +kernel
theorem dL_law_7 : decode cL_law 7 = .ok (.astore_n 1, 1) := by decide +kernel
theorem dL_law_8 : decode cL_law 8 = .ok (.new 8, 3) := by decide +kernel
theorem dL_law_11 : decode cL_law 11 = .ok (.dup, 1) := by decide +kernel
theorem dL_law_12 : decode cL_law 12 = .ok (.invokespecial 43, 3) := by decide +kernel
theorem dL_law_15 : decode cL_law 15 = .ok (.astore_n 2, 1) := by decide +kernel
theorem dL_law_16 : decode cL_law 16 = .ok (.sipush 256, 3) := by decide +kernel
theorem dL_law_19 : decode cL_law 19 = .ok (.newarray .byte, 2) := by decide +kernel
theorem dL_law_21 : decode cL_law 21 = .ok (.astore_n 3, 1) := by decide +kernel
theorem dL_law_22 : decode cL_law 22 = .ok (.iconst 0, 1) := by decide +kernel
theorem dL_law_23 : decode cL_law 23 = .ok (.istore 4, 2) := by decide +kernel
theorem dL_law_25 : decode cL_law 25 = .ok (.aload_n 1, 1) := by decide +kernel
theorem dL_law_26 : decode cL_law 26 = .ok (.iconst 0, 1) := by decide +kernel
theorem dL_law_27 : decode cL_law 27 = .ok (.iconst 0, 1) := by decide +kernel
theorem dL_law_28 : decode cL_law 28 = .ok (.iconst 0, 1) := by decide +kernel
theorem dL_law_29 : decode cL_law 29 = .ok (.invokevirtual 44, 3) := by decide +kernel
theorem dL_law_32 : decode cL_law 32 = .ok (.ifCond .ne 30, 3) := by decide +kernel
theorem dL_law_35 : decode cL_law 35 = .ok (.aload_n 1, 1) := by decide +kernel
theorem dL_law_36 : decode cL_law 36 = .ok (.iconst 0, 1) := by decide +kernel
theorem dL_law_37 : decode cL_law 37 = .ok (.iconst 0, 1) := by decide +kernel
theorem dL_law_38 : decode cL_law 38 = .ok (.iconst 1, 1) := by decide +kernel
theorem dL_law_39 : decode cL_law 39 = .ok (.invokevirtual 44, 3) := by decide +kernel
theorem dL_law_42 : decode cL_law 42 = .ok (.ldc 48, 2) := by decide +kernel
theorem dL_law_44 : decode cL_law 44 = .ok (.if_icmp .ne 18, 3) := by decide +kernel
theorem dL_law_47 : decode cL_law 47 = .ok (.aload_n 1, 1) := by decide +kernel
theorem dL_law_48 : decode cL_law 48 = .ok (.iconst 1, 1) := by decide +kernel
theorem dL_law_49 : decode cL_law 49 = .ok (.invokevirtual 49, 3) := by decide +kernel
theorem dL_law_52 : decode cL_law 52 = .ok (.ifCond .ne 10, 3) := by decide +kernel
theorem dL_law_55 : decode cL_law 55 = .ok (.aload_n 1, 1) := by decide +kernel
theorem dL_law_56 : decode cL_law 56 = .ok (.invokevirtual 34, 3) := by decide +kernel
theorem dL_law_59 : decode cL_law 59 = .ok (.ifCond .eq 5, 3) := by decide +kernel
theorem dL_law_62 : decode cL_law 62 = .ok (.iconst 0, 1) := by decide +kernel
theorem dL_law_63 : decode cL_law 63 = .ok (.ireturn, 1) := by decide +kernel
theorem dL_law_64 : decode cL_law 64 = .ok (.iconst 0, 1) := by decide +kernel
theorem dL_law_65 : decode cL_law 65 = .ok (.istore 5, 2) := by decide +kernel
theorem dL_law_67 : decode cL_law 67 = .ok (.iload 5, 2) := by decide +kernel
theorem dL_law_69 : decode cL_law 69 = .ok (.bipush 96, 2) := by decide +kernel
theorem dL_law_71 : decode cL_law 71 = .ok (.if_icmp .ge 652, 3) := by decide +kernel
theorem dL_law_74 : decode cL_law 74 = .ok (.aload_n 0, 1) := by decide +kernel
theorem dL_law_75 : decode cL_law 75 = .ok (.iload 5, 2) := by decide +kernel
theorem dL_law_77 : decode cL_law 77 = .ok (.invokestatic 53, 3) := by decide +kernel
theorem dL_law_80 : decode cL_law 80 = .ok (.istore 6, 2) := by decide +kernel
theorem dL_law_82 : decode cL_law 82 = .ok (.aload_n 0, 1) := by decide +kernel
theorem dL_law_83 : decode cL_law 83 = .ok (.iload 5, 2) := by decide +kernel
theorem dL_law_85 : decode cL_law 85 = .ok (.iconst 1, 1) := by decide +kernel
theorem dL_law_86 : decode cL_law 86 = .ok (.iadd, 1) := by decide +kernel
theorem dL_law_87 : decode cL_law 87 = .ok (.invokestatic 53, 3) := by decide +kernel
theorem dL_law_90 : decode cL_law 90 = .ok (.istore 7, 2) := by decide +kernel
theorem dL_law_92 : decode cL_law 92 = .ok (.aload_n 0, 1) := by decide +kernel
theorem dL_law_93 : decode cL_law 93 = .ok (.iload 5, 2) := by decide +kernel
theorem dL_law_95 : decode cL_law 95 = .ok (.iconst 2, 1) := by decide +kernel
theorem dL_law_96 : decode cL_law 96 = .ok (.iadd, 1) := by decide +kernel
theorem dL_law_97 : decode cL_law 97 = .ok (.invokestatic 53, 3) := by decide +kernel
theorem dL_law_100 : decode cL_law 100 = .ok (.istore 8, 2) := by decide +kernel
theorem dL_law_102 : decode cL_law 102 = .ok (.aload_n 0, 1) := by decide +kernel
theorem dL_law_103 : decode cL_law 103 = .ok (.iload 5, 2) := by decide +kernel
theorem dL_law_105 : decode cL_law 105 = .ok (.iconst 3, 1) := by decide +kernel
theorem dL_law_106 : decode cL_law 106 = .ok (.iadd, 1) := by decide +kernel
theorem dL_law_107 : decode cL_law 107 = .ok (.invokestatic 53, 3) := by decide +kernel
theorem dL_law_110 : decode cL_law 110 = .ok (.istore 9, 2) := by decide +kernel
theorem dL_law_112 : decode cL_law 112 = .ok (.aload_n 0, 1) := by decide +kernel
theorem dL_law_113 : decode cL_law 113 = .ok (.iload 5, 2) := by decide +kernel
theorem dL_law_115 : decode cL_law 115 = .ok (.iconst 4, 1) := by decide +kernel
theorem dL_law_116 : decode cL_law 116 = .ok (.iadd, 1) := by decide +kernel
theorem dL_law_117 : decode cL_law 117 = .ok (.invokestatic 53, 3) := by decide +kernel
theorem dL_law_120 : decode cL_law 120 = .ok (.istore 10, 2) := by decide +kernel
theorem dL_law_122 : decode cL_law 122 = .ok (.aload_n 0, 1) := by decide +kernel
theorem dL_law_123 : decode cL_law 123 = .ok (.iload 5, 2) := by decide +kernel
theorem dL_law_125 : decode cL_law 125 = .ok (.iconst 5, 1) := by decide +kernel
theorem dL_law_126 : decode cL_law 126 = .ok (.iadd, 1) := by decide +kernel
theorem dL_law_127 : decode cL_law 127 = .ok (.invokestatic 53, 3) := by decide +kernel
theorem dL_law_130 : decode cL_law 130 = .ok (.istore 11, 2) := by decide +kernel
theorem dL_law_132 : decode cL_law 132 = .ok (.iload 7, 2) := by decide +kernel
theorem dL_law_134 : decode cL_law 134 = .ok (.iload 4, 2) := by decide +kernel
theorem dL_law_136 : decode cL_law 136 = .ok (.iconst 1, 1) := by decide +kernel
theorem dL_law_137 : decode cL_law 137 = .ok (.iadd, 1) := by decide +kernel
theorem dL_law_138 : decode cL_law 138 = .ok (.invokestatic 57, 3) := by decide +kernel
theorem dL_law_141 : decode cL_law 141 = .ok (.istore 12, 2) := by decide +kernel
theorem dL_law_143 : decode cL_law 143 = .ok (.iload 8, 2) := by decide +kernel
theorem dL_law_145 : decode cL_law 145 = .ok (.iload 4, 2) := by decide +kernel
theorem dL_law_147 : decode cL_law 147 = .ok (.iload 12, 2) := by decide +kernel
theorem dL_law_149 : decode cL_law 149 = .ok (.isub, 1) := by decide +kernel
theorem dL_law_150 : decode cL_law 150 = .ok (.iconst 1, 1) := by decide +kernel
theorem dL_law_151 : decode cL_law 151 = .ok (.iadd, 1) := by decide +kernel
theorem dL_law_152 : decode cL_law 152 = .ok (.invokestatic 57, 3) := by decide +kernel
theorem dL_law_155 : decode cL_law 155 = .ok (.istore 13, 2) := by decide +kernel
theorem dL_law_157 : decode cL_law 157 = .ok (.iload 6, 2) := by decide +kernel
theorem dL_law_159 : decode cL_law 159 = .ok (.bipush 12, 2) := by decide +kernel
theorem dL_law_161 : decode cL_law 161 = .ok (.invokestatic 57, 3) := by decide +kernel
theorem dL_law_164 : decode cL_law 164 = .ok (.tableswitch 442 0 10 #[60, 60, 60, 174, 187, 187, 207, 207, 254, 336, 432], 60) := by decide +kernel
theorem dL_law_224 : decode cL_law 224 = .ok (.aload_n 1, 1) := by decide +kernel
theorem dL_law_225 : decode cL_law 225 = .ok (.iload 7, 2) := by decide +kernel
theorem dL_law_227 : decode cL_law 227 = .ok (.iload 8, 2) := by decide +kernel
theorem dL_law_229 : decode cL_law 229 = .ok (.iload 9, 2) := by decide +kernel
theorem dL_law_231 : decode cL_law 231 = .ok (.iload 10, 2) := by decide +kernel
theorem dL_law_233 : decode cL_law 233 = .ok (.invokevirtual 61, 3) := by decide +kernel
theorem dL_law_236 : decode cL_law 236 = .ok (.iload 4, 2) := by decide +kernel
theorem dL_law_238 : decode cL_law 238 = .ok (.sipush 240, 3) := by decide +kernel
theorem dL_law_241 : decode cL_law 241 = .ok (.if_icmp .gt 7, 3) := by decide +kernel
theorem dL_law_244 : decode cL_law 244 = .ok (.iconst 1, 1) := by decide +kernel
theorem dL_law_245 : decode cL_law 245 = .ok (.goto 4, 3) := by decide +kernel
theorem dL_law_248 : decode cL_law 248 = .ok (.iconst 0, 1) := by decide +kernel
theorem dL_law_249 : decode cL_law 249 = .ok (.if_icmp .eq 5, 3) := by decide +kernel
theorem dL_law_252 : decode cL_law 252 = .ok (.iconst 0, 1) := by decide +kernel
theorem dL_law_253 : decode cL_law 253 = .ok (.ireturn, 1) := by decide +kernel
theorem dL_law_254 : decode cL_law 254 = .ok (.iload 4, 2) := by decide +kernel
theorem dL_law_256 : decode cL_law 256 = .ok (.sipush 240, 3) := by decide +kernel
theorem dL_law_259 : decode cL_law 259 = .ok (.if_icmp .le 6, 3) := by decide +kernel
theorem dL_law_262 : decode cL_law 262 = .ok (.goto 344, 3) := by decide +kernel
theorem dL_law_265 : decode cL_law 265 = .ok (.iconst 4, 1) := by decide +kernel
theorem dL_law_266 : decode cL_law 266 = .ok (.newarray .int, 2) := by decide +kernel
theorem dL_law_268 : decode cL_law 268 = .ok (.dup, 1) := by decide +kernel
theorem dL_law_269 : decode cL_law 269 = .ok (.iconst 0, 1) := by decide +kernel
theorem dL_law_270 : decode cL_law 270 = .ok (.iload 7, 2) := by decide +kernel
theorem dL_law_272 : decode cL_law 272 = .ok (.iastore, 1) := by decide +kernel
theorem dL_law_273 : decode cL_law 273 = .ok (.dup, 1) := by decide +kernel
theorem dL_law_274 : decode cL_law 274 = .ok (.iconst 1, 1) := by decide +kernel
theorem dL_law_275 : decode cL_law 275 = .ok (.iload 8, 2) := by decide +kernel
theorem dL_law_277 : decode cL_law 277 = .ok (.iastore, 1) := by decide +kernel
theorem dL_law_278 : decode cL_law 278 = .ok (.dup, 1) := by decide +kernel
theorem dL_law_279 : decode cL_law 279 = .ok (.iconst 2, 1) := by decide +kernel
theorem dL_law_280 : decode cL_law 280 = .ok (.iload 9, 2) := by decide +kernel
theorem dL_law_282 : decode cL_law 282 = .ok (.iastore, 1) := by decide +kernel
theorem dL_law_283 : decode cL_law 283 = .ok (.dup, 1) := by decide +kernel
theorem dL_law_284 : decode cL_law 284 = .ok (.iconst 3, 1) := by decide +kernel
theorem dL_law_285 : decode cL_law 285 = .ok (.iload 10, 2) := by decide +kernel
theorem dL_law_287 : decode cL_law 287 = .ok (.iastore, 1) := by decide +kernel
theorem dL_law_288 : decode cL_law 288 = .ok (.astore 14, 2) := by decide +kernel
theorem dL_law_290 : decode cL_law 290 = .ok (.iconst 0, 1) := by decide +kernel
theorem dL_law_291 : decode cL_law 291 = .ok (.istore 15, 2) := by decide +kernel
theorem dL_law_293 : decode cL_law 293 = .ok (.iload 15, 2) := by decide +kernel
theorem dL_law_295 : decode cL_law 295 = .ok (.bipush 16, 2) := by decide +kernel
theorem dL_law_297 : decode cL_law 297 = .ok (.if_icmp .ge 35, 3) := by decide +kernel
theorem dL_law_300 : decode cL_law 300 = .ok (.aload_n 3, 1) := by decide +kernel
theorem dL_law_301 : decode cL_law 301 = .ok (.iload 4, 2) := by decide +kernel
theorem dL_law_303 : decode cL_law 303 = .ok (.iload 15, 2) := by decide +kernel
theorem dL_law_305 : decode cL_law 305 = .ok (.iadd, 1) := by decide +kernel
theorem dL_law_306 : decode cL_law 306 = .ok (.aload 14, 2) := by decide +kernel
theorem dL_law_308 : decode cL_law 308 = .ok (.iload 15, 2) := by decide +kernel
theorem dL_law_310 : decode cL_law 310 = .ok (.iconst 4, 1) := by decide +kernel
theorem dL_law_311 : decode cL_law 311 = .ok (.idiv, 1) := by decide +kernel
theorem dL_law_312 : decode cL_law 312 = .ok (.iaload, 1) := by decide +kernel
theorem dL_law_313 : decode cL_law 313 = .ok (.bipush 24, 2) := by decide +kernel
theorem dL_law_315 : decode cL_law 315 = .ok (.iload 15, 2) := by decide +kernel
theorem dL_law_317 : decode cL_law 317 = .ok (.iconst 4, 1) := by decide +kernel
theorem dL_law_318 : decode cL_law 318 = .ok (.irem, 1) := by decide +kernel
theorem dL_law_319 : decode cL_law 319 = .ok (.bipush 8, 2) := by decide +kernel
theorem dL_law_321 : decode cL_law 321 = .ok (.imul, 1) := by decide +kernel
theorem dL_law_322 : decode cL_law 322 = .ok (.isub, 1) := by decide +kernel
theorem dL_law_323 : decode cL_law 323 = .ok (.ishr, 1) := by decide +kernel
theorem dL_law_324 : decode cL_law 324 = .ok (.i2b, 1) := by decide +kernel
theorem dL_law_325 : decode cL_law 325 = .ok (.bastore, 1) := by decide +kernel
theorem dL_law_326 : decode cL_law 326 = .ok (.iinc 15 1, 3) := by decide +kernel
theorem dL_law_329 : decode cL_law 329 = .ok (.goto (-36), 3) := by decide +kernel
theorem dL_law_332 : decode cL_law 332 = .ok (.iinc 4 16, 3) := by decide +kernel
theorem dL_law_335 : decode cL_law 335 = .ok (.goto 271, 3) := by decide +kernel
theorem dL_law_338 : decode cL_law 338 = .ok (.aload_n 1, 1) := by decide +kernel
theorem dL_law_339 : decode cL_law 339 = .ok (.iload 7, 2) := by decide +kernel
theorem dL_law_341 : decode cL_law 341 = .ok (.invokevirtual 65, 3) := by decide +kernel
theorem dL_law_344 : decode cL_law 344 = .ok (.iload 12, 2) := by decide +kernel
theorem dL_law_346 : decode cL_law 346 = .ok (.istore 4, 2) := by decide +kernel
theorem dL_law_348 : decode cL_law 348 = .ok (.goto 258, 3) := by decide +kernel
theorem dL_law_351 : decode cL_law 351 = .ok (.aload_n 1, 1) := by decide +kernel
theorem dL_law_352 : decode cL_law 352 = .ok (.iload 7, 2) := by decide +kernel
theorem dL_law_354 : decode cL_law 354 = .ok (.invokevirtual 69, 3) := by decide +kernel
theorem dL_law_357 : decode cL_law 357 = .ok (.aload_n 2, 1) := by decide +kernel
theorem dL_law_358 : decode cL_law 358 = .ok (.iconst 0, 1) := by decide +kernel
theorem dL_law_359 : decode cL_law 359 = .ok (.putfield 13, 3) := by decide +kernel
theorem dL_law_362 : decode cL_law 362 = .ok (.aload_n 2, 1) := by decide +kernel
theorem dL_law_363 : decode cL_law 363 = .ok (.iload 7, 2) := by decide +kernel
theorem dL_law_365 : decode cL_law 365 = .ok (.putfield 27, 3) := by decide +kernel
theorem dL_law_368 : decode cL_law 368 = .ok (.goto 238, 3) := by decide +kernel
theorem dL_law_371 : decode cL_law 371 = .ok (.iconst 0, 1) := by decide +kernel
theorem dL_law_372 : decode cL_law 372 = .ok (.istore 15, 2) := by decide +kernel
theorem dL_law_374 : decode cL_law 374 = .ok (.iload 15, 2) := by decide +kernel
theorem dL_law_376 : decode cL_law 376 = .ok (.iload 11, 2) := by decide +kernel
theorem dL_law_378 : decode cL_law 378 = .ok (.bipush 63, 2) := by decide +kernel
theorem dL_law_380 : decode cL_law 380 = .ok (.iand, 1) := by decide +kernel
theorem dL_law_381 : decode cL_law 381 = .ok (.if_icmp .gt 34, 3) := by decide +kernel
theorem dL_law_384 : decode cL_law 384 = .ok (.aload_n 2, 1) := by decide +kernel
theorem dL_law_385 : decode cL_law 385 = .ok (.aload_n 1, 1) := by decide +kernel
theorem dL_law_386 : decode cL_law 386 = .ok (.iload 7, 2) := by decide +kernel
theorem dL_law_388 : decode cL_law 388 = .ok (.iload 8, 2) := by decide +kernel
theorem dL_law_390 : decode cL_law 390 = .ok (.invokevirtual 72, 3) := by decide +kernel
theorem dL_law_393 : decode cL_law 393 = .ok (.aload_n 3, 1) := by decide +kernel
theorem dL_law_394 : decode cL_law 394 = .ok (.iload 12, 2) := by decide +kernel
theorem dL_law_396 : decode cL_law 396 = .ok (.iload 13, 2) := by decide +kernel
theorem dL_law_398 : decode cL_law 398 = .ok (.invokestatic 76, 3) := by decide +kernel
theorem dL_law_401 : decode cL_law 401 = .ok (.invokevirtual 80, 3) := by decide +kernel
theorem dL_law_404 : decode cL_law 404 = .ok (.ifCond .ne 5, 3) := by decide +kernel
theorem dL_law_407 : decode cL_law 407 = .ok (.iconst 0, 1) := by decide +kernel
theorem dL_law_408 : decode cL_law 408 = .ok (.ireturn, 1) := by decide +kernel
theorem dL_law_409 : decode cL_law 409 = .ok (.iinc 15 1, 3) := by decide +kernel
theorem dL_law_412 : decode cL_law 412 = .ok (.goto (-38), 3) := by decide +kernel
theorem dL_law_415 : decode cL_law 415 = .ok (.goto 191, 3) := by decide +kernel
theorem dL_law_418 : decode cL_law 418 = .ok (.aload_n 2, 1) := by decide +kernel
theorem dL_law_419 : decode cL_law 419 = .ok (.aload_n 1, 1) := by decide +kernel
theorem dL_law_420 : decode cL_law 420 = .ok (.iload 7, 2) := by decide +kernel
theorem dL_law_422 : decode cL_law 422 = .ok (.invokevirtual 49, 3) := by decide +kernel
theorem dL_law_425 : decode cL_law 425 = .ok (.iload 7, 2) := by decide +kernel
theorem dL_law_427 : decode cL_law 427 = .ok (.i2l, 1) := by decide +kernel
theorem dL_law_428 : decode cL_law 428 = .ok (.iconst 1, 1) := by decide +kernel
theorem dL_law_429 : decode cL_law 429 = .ok (.invokestatic 84, 3) := by decide +kernel
theorem dL_law_432 : decode cL_law 432 = .ok (.invokevirtual 80, 3) := by decide +kernel
theorem dL_law_435 : decode cL_law 435 = .ok (.ifCond .eq 63, 3) := by decide +kernel
theorem dL_law_438 : decode cL_law 438 = .ok (.aload_n 2, 1) := by decide +kernel
theorem dL_law_439 : decode cL_law 439 = .ok (.aload_n 1, 1) := by decide +kernel
theorem dL_law_440 : decode cL_law 440 = .ok (.iload 8, 2) := by decide +kernel
theorem dL_law_442 : decode cL_law 442 = .ok (.invokevirtual 49, 3) := by decide +kernel
theorem dL_law_445 : decode cL_law 445 = .ok (.iload 8, 2) := by decide +kernel
theorem dL_law_447 : decode cL_law 447 = .ok (.i2l, 1) := by decide +kernel
theorem dL_law_448 : decode cL_law 448 = .ok (.iconst 1, 1) := by decide +kernel
theorem dL_law_449 : decode cL_law 449 = .ok (.invokestatic 84, 3) := by decide +kernel
theorem dL_law_452 : decode cL_law 452 = .ok (.invokevirtual 80, 3) := by decide +kernel
theorem dL_law_455 : decode cL_law 455 = .ok (.ifCond .eq 43, 3) := by decide +kernel
theorem dL_law_458 : decode cL_law 458 = .ok (.aload_n 2, 1) := by decide +kernel
theorem dL_law_459 : decode cL_law 459 = .ok (.aload_n 1, 1) := by decide +kernel
theorem dL_law_460 : decode cL_law 460 = .ok (.iload 9, 2) := by decide +kernel
theorem dL_law_462 : decode cL_law 462 = .ok (.invokevirtual 88, 3) := by decide +kernel
theorem dL_law_465 : decode cL_law 465 = .ok (.iload 9, 2) := by decide +kernel
theorem dL_law_467 : decode cL_law 467 = .ok (.i2l, 1) := by decide +kernel
theorem dL_law_468 : decode cL_law 468 = .ok (.iconst 4, 1) := by decide +kernel
theorem dL_law_469 : decode cL_law 469 = .ok (.invokestatic 84, 3) := by decide +kernel
theorem dL_law_472 : decode cL_law 472 = .ok (.invokevirtual 80, 3) := by decide +kernel
theorem dL_law_475 : decode cL_law 475 = .ok (.ifCond .eq 23, 3) := by decide +kernel
theorem dL_law_478 : decode cL_law 478 = .ok (.aload_n 2, 1) := by decide +kernel
theorem dL_law_479 : decode cL_law 479 = .ok (.aload_n 1, 1) := by decide +kernel
theorem dL_law_480 : decode cL_law 480 = .ok (.iload 10, 2) := by decide +kernel
theorem dL_law_482 : decode cL_law 482 = .ok (.invokevirtual 49, 3) := by decide +kernel
theorem dL_law_485 : decode cL_law 485 = .ok (.iload 10, 2) := by decide +kernel
theorem dL_law_487 : decode cL_law 487 = .ok (.i2l, 1) := by decide +kernel
theorem dL_law_488 : decode cL_law 488 = .ok (.iconst 1, 1) := by decide +kernel
theorem dL_law_489 : decode cL_law 489 = .ok (.invokestatic 84, 3) := by decide +kernel
theorem dL_law_492 : decode cL_law 492 = .ok (.invokevirtual 80, 3) := by decide +kernel
theorem dL_law_495 : decode cL_law 495 = .ok (.ifCond .ne 111, 3) := by decide +kernel
theorem dL_law_498 : decode cL_law 498 = .ok (.iconst 0, 1) := by decide +kernel
theorem dL_law_499 : decode cL_law 499 = .ok (.ireturn, 1) := by decide +kernel
theorem dL_law_500 : decode cL_law 500 = .ok (.aload_n 2, 1) := by decide +kernel
theorem dL_law_501 : decode cL_law 501 = .ok (.aload_n 1, 1) := by decide +kernel
theorem dL_law_502 : decode cL_law 502 = .ok (.iload 7, 2) := by decide +kernel
theorem dL_law_504 : decode cL_law 504 = .ok (.invokevirtual 88, 3) := by decide +kernel
theorem dL_law_507 : decode cL_law 507 = .ok (.iload 7, 2) := by decide +kernel
theorem dL_law_509 : decode cL_law 509 = .ok (.i2l, 1) := by decide +kernel
theorem dL_law_510 : decode cL_law 510 = .ok (.iconst 4, 1) := by decide +kernel
theorem dL_law_511 : decode cL_law 511 = .ok (.invokestatic 84, 3) := by decide +kernel
theorem dL_law_514 : decode cL_law 514 = .ok (.invokevirtual 80, 3) := by decide +kernel
theorem dL_law_517 : decode cL_law 517 = .ok (.ifCond .eq 77, 3) := by decide +kernel
theorem dL_law_520 : decode cL_law 520 = .ok (.aload_n 2, 1) := by decide +kernel
theorem dL_law_521 : decode cL_law 521 = .ok (.aload_n 1, 1) := by decide +kernel
theorem dL_law_522 : decode cL_law 522 = .ok (.iload 8, 2) := by decide +kernel
theorem dL_law_524 : decode cL_law 524 = .ok (.iload 9, 2) := by decide +kernel
theorem dL_law_526 : decode cL_law 526 = .ok (.invokevirtual 91, 3) := by decide +kernel
theorem dL_law_529 : decode cL_law 529 = .ok (.iload 8, 2) := by decide +kernel
theorem dL_law_531 : decode cL_law 531 = .ok (.iload 9, 2) := by decide +kernel
theorem dL_law_533 : decode cL_law 533 = .ok (.invokestatic 94, 3) := by decide +kernel
theorem dL_law_536 : decode cL_law 536 = .ok (.bipush 8, 2) := by decide +kernel
theorem dL_law_538 : decode cL_law 538 = .ok (.invokestatic 84, 3) := by decide +kernel
theorem dL_law_541 : decode cL_law 541 = .ok (.invokevirtual 80, 3) := by decide +kernel
theorem dL_law_544 : decode cL_law 544 = .ok (.ifCond .eq 50, 3) := by decide +kernel
theorem dL_law_547 : decode cL_law 547 = .ok (.aload_n 2, 1) := by decide +kernel
theorem dL_law_548 : decode cL_law 548 = .ok (.aload_n 1, 1) := by decide +kernel
theorem dL_law_549 : decode cL_law 549 = .ok (.iload 10, 2) := by decide +kernel
theorem dL_law_551 : decode cL_law 551 = .ok (.invokevirtual 49, 3) := by decide +kernel
theorem dL_law_554 : decode cL_law 554 = .ok (.iload 10, 2) := by decide +kernel
theorem dL_law_556 : decode cL_law 556 = .ok (.i2l, 1) := by decide +kernel
theorem dL_law_557 : decode cL_law 557 = .ok (.iconst 1, 1) := by decide +kernel
theorem dL_law_558 : decode cL_law 558 = .ok (.invokestatic 84, 3) := by decide +kernel
theorem dL_law_561 : decode cL_law 561 = .ok (.invokevirtual 80, 3) := by decide +kernel
theorem dL_law_564 : decode cL_law 564 = .ok (.ifCond .eq 30, 3) := by decide +kernel
theorem dL_law_567 : decode cL_law 567 = .ok (.aload_n 2, 1) := by decide +kernel
theorem dL_law_568 : decode cL_law 568 = .ok (.aload_n 1, 1) := by decide +kernel
theorem dL_law_569 : decode cL_law 569 = .ok (.iload 11, 2) := by decide +kernel
theorem dL_law_571 : decode cL_law 571 = .ok (.iload 10, 2) := by decide +kernel
theorem dL_law_573 : decode cL_law 573 = .ok (.invokevirtual 91, 3) := by decide +kernel
theorem dL_law_576 : decode cL_law 576 = .ok (.iload 11, 2) := by decide +kernel
theorem dL_law_578 : decode cL_law 578 = .ok (.iload 10, 2) := by decide +kernel
theorem dL_law_580 : decode cL_law 580 = .ok (.invokestatic 94, 3) := by decide +kernel
theorem dL_law_583 : decode cL_law 583 = .ok (.bipush 8, 2) := by decide +kernel
theorem dL_law_585 : decode cL_law 585 = .ok (.invokestatic 84, 3) := by decide +kernel
theorem dL_law_588 : decode cL_law 588 = .ok (.invokevirtual 80, 3) := by decide +kernel
theorem dL_law_591 : decode cL_law 591 = .ok (.ifCond .ne 15, 3) := by decide +kernel
theorem dL_law_594 : decode cL_law 594 = .ok (.iconst 0, 1) := by decide +kernel
theorem dL_law_595 : decode cL_law 595 = .ok (.ireturn, 1) := by decide +kernel
theorem dL_law_596 : decode cL_law 596 = .ok (.aload_n 2, 1) := by decide +kernel
theorem dL_law_597 : decode cL_law 597 = .ok (.aload_n 1, 1) := by decide +kernel
theorem dL_law_598 : decode cL_law 598 = .ok (.invokevirtual 97, 3) := by decide +kernel
theorem dL_law_601 : decode cL_law 601 = .ok (.ifCond .ne 5, 3) := by decide +kernel
theorem dL_law_604 : decode cL_law 604 = .ok (.iconst 0, 1) := by decide +kernel
theorem dL_law_605 : decode cL_law 605 = .ok (.ireturn, 1) := by decide +kernel
theorem dL_law_606 : decode cL_law 606 = .ok (.iload 7, 2) := by decide +kernel
theorem dL_law_608 : decode cL_law 608 = .ok (.iload 4, 2) := by decide +kernel
theorem dL_law_610 : decode cL_law 610 = .ok (.iconst 1, 1) := by decide +kernel
theorem dL_law_611 : decode cL_law 611 = .ok (.iadd, 1) := by decide +kernel
theorem dL_law_612 : decode cL_law 612 = .ok (.invokestatic 57, 3) := by decide +kernel
theorem dL_law_615 : decode cL_law 615 = .ok (.istore 12, 2) := by decide +kernel
theorem dL_law_617 : decode cL_law 617 = .ok (.iload 8, 2) := by decide +kernel
theorem dL_law_619 : decode cL_law 619 = .ok (.iload 4, 2) := by decide +kernel
theorem dL_law_621 : decode cL_law 621 = .ok (.iload 12, 2) := by decide +kernel
theorem dL_law_623 : decode cL_law 623 = .ok (.isub, 1) := by decide +kernel
theorem dL_law_624 : decode cL_law 624 = .ok (.iconst 1, 1) := by decide +kernel
theorem dL_law_625 : decode cL_law 625 = .ok (.iadd, 1) := by decide +kernel
theorem dL_law_626 : decode cL_law 626 = .ok (.invokestatic 57, 3) := by decide +kernel
theorem dL_law_629 : decode cL_law 629 = .ok (.istore 13, 2) := by decide +kernel
theorem dL_law_631 : decode cL_law 631 = .ok (.aload_n 1, 1) := by decide +kernel
theorem dL_law_632 : decode cL_law 632 = .ok (.iload 7, 2) := by decide +kernel
theorem dL_law_634 : decode cL_law 634 = .ok (.iload 8, 2) := by decide +kernel
theorem dL_law_636 : decode cL_law 636 = .ok (.iload 9, 2) := by decide +kernel
theorem dL_law_638 : decode cL_law 638 = .ok (.invokevirtual 44, 3) := by decide +kernel
theorem dL_law_641 : decode cL_law 641 = .ok (.aload_n 3, 1) := by decide +kernel
theorem dL_law_642 : decode cL_law 642 = .ok (.iload 12, 2) := by decide +kernel
theorem dL_law_644 : decode cL_law 644 = .ok (.iload 13, 2) := by decide +kernel
theorem dL_law_646 : decode cL_law 646 = .ok (.invokestatic 76, 3) := by decide +kernel
theorem dL_law_649 : decode cL_law 649 = .ok (.iload 13, 2) := by decide +kernel
theorem dL_law_651 : decode cL_law 651 = .ok (.iload 9, 2) := by decide +kernel
theorem dL_law_653 : decode cL_law 653 = .ok (.invokestatic 30, 3) := by decide +kernel
theorem dL_law_656 : decode cL_law 656 = .ok (.if_icmp .ne 59, 3) := by decide +kernel
theorem dL_law_659 : decode cL_law 659 = .ok (.aload_n 1, 1) := by decide +kernel
theorem dL_law_660 : decode cL_law 660 = .ok (.iload 10, 2) := by decide +kernel
theorem dL_law_662 : decode cL_law 662 = .ok (.iload 11, 2) := by decide +kernel
theorem dL_law_664 : decode cL_law 664 = .ok (.invokevirtual 101, 3) := by decide +kernel
theorem dL_law_667 : decode cL_law 667 = .ok (.iload 10, 2) := by decide +kernel
theorem dL_law_669 : decode cL_law 669 = .ok (.i2l, 1) := by decide +kernel
theorem dL_law_670 : decode cL_law 670 = .ok (.iconst 4, 1) := by decide +kernel
theorem dL_law_671 : decode cL_law 671 = .ok (.invokestatic 84, 3) := by decide +kernel
theorem dL_law_674 : decode cL_law 674 = .ok (.iconst 4, 1) := by decide +kernel
theorem dL_law_675 : decode cL_law 675 = .ok (.iload 11, 2) := by decide +kernel
theorem dL_law_677 : decode cL_law 677 = .ok (.invokestatic 30, 3) := by decide +kernel
theorem dL_law_680 : decode cL_law 680 = .ok (.if_icmp .ne 35, 3) := by decide +kernel
theorem dL_law_683 : decode cL_law 683 = .ok (.aload_n 1, 1) := by decide +kernel
theorem dL_law_684 : decode cL_law 684 = .ok (.iload 7, 2) := by decide +kernel
theorem dL_law_686 : decode cL_law 686 = .ok (.iload 10, 2) := by decide +kernel
theorem dL_law_688 : decode cL_law 688 = .ok (.iload 11, 2) := by decide +kernel
theorem dL_law_690 : decode cL_law 690 = .ok (.invokevirtual 104, 3) := by decide +kernel
theorem dL_law_693 : decode cL_law 693 = .ok (.iload 7, 2) := by decide +kernel
theorem dL_law_695 : decode cL_law 695 = .ok (.iload 10, 2) := by decide +kernel
theorem dL_law_697 : decode cL_law 697 = .ok (.invokestatic 94, 3) := by decide +kernel
theorem dL_law_700 : decode cL_law 700 = .ok (.bipush 8, 2) := by decide +kernel
theorem dL_law_702 : decode cL_law 702 = .ok (.invokestatic 84, 3) := by decide +kernel
theorem dL_law_705 : decode cL_law 705 = .ok (.bipush 8, 2) := by decide +kernel
theorem dL_law_707 : decode cL_law 707 = .ok (.iload 11, 2) := by decide +kernel
theorem dL_law_709 : decode cL_law 709 = .ok (.invokestatic 30, 3) := by decide +kernel
theorem dL_law_712 : decode cL_law 712 = .ok (.if_icmp .eq 5, 3) := by decide +kernel
theorem dL_law_715 : decode cL_law 715 = .ok (.iconst 0, 1) := by decide +kernel
theorem dL_law_716 : decode cL_law 716 = .ok (.ireturn, 1) := by decide +kernel
theorem dL_law_717 : decode cL_law 717 = .ok (.iinc 5 6, 3) := by decide +kernel
theorem dL_law_720 : decode cL_law 720 = .ok (.goto (-653), 3) := by decide +kernel
theorem dL_law_723 : decode cL_law 723 = .ok (.aload_n 2, 1) := by decide +kernel
theorem dL_law_724 : decode cL_law 724 = .ok (.aload_n 1, 1) := by decide +kernel
theorem dL_law_725 : decode cL_law 725 = .ok (.invokevirtual 97, 3) := by decide +kernel
theorem dL_law_728 : decode cL_law 728 = .ok (.ifCond .eq 45, 3) := by decide +kernel
theorem dL_law_731 : decode cL_law 731 = .ok (.aload_n 2, 1) := by decide +kernel
theorem dL_law_732 : decode cL_law 732 = .ok (.aload_n 1, 1) := by decide +kernel
theorem dL_law_733 : decode cL_law 733 = .ok (.invokevirtual 97, 3) := by decide +kernel
theorem dL_law_736 : decode cL_law 736 = .ok (.ifCond .eq 37, 3) := by decide +kernel
theorem dL_law_739 : decode cL_law 739 = .ok (.aload_n 1, 1) := by decide +kernel
theorem dL_law_740 : decode cL_law 740 = .ok (.iconst 0, 1) := by decide +kernel
theorem dL_law_741 : decode cL_law 741 = .ok (.iconst 0, 1) := by decide +kernel
theorem dL_law_742 : decode cL_law 742 = .ok (.invokevirtual 72, 3) := by decide +kernel
theorem dL_law_745 : decode cL_law 745 = .ok (.ifCond .ne 28, 3) := by decide +kernel
theorem dL_law_748 : decode cL_law 748 = .ok (.aload_n 1, 1) := by decide +kernel
theorem dL_law_749 : decode cL_law 749 = .ok (.iconst 0, 1) := by decide +kernel
theorem dL_law_750 : decode cL_law 750 = .ok (.invokevirtual 49, 3) := by decide +kernel
theorem dL_law_753 : decode cL_law 753 = .ok (.ifCond .ne 20, 3) := by decide +kernel
theorem dL_law_756 : decode cL_law 756 = .ok (.aload_n 1, 1) := by decide +kernel
theorem dL_law_757 : decode cL_law 757 = .ok (.iconst 0, 1) := by decide +kernel
theorem dL_law_758 : decode cL_law 758 = .ok (.invokevirtual 88, 3) := by decide +kernel
theorem dL_law_761 : decode cL_law 761 = .ok (.ifCond .ne 12, 3) := by decide +kernel
theorem dL_law_764 : decode cL_law 764 = .ok (.aload_n 1, 1) := by decide +kernel
theorem dL_law_765 : decode cL_law 765 = .ok (.iconst 0, 1) := by decide +kernel
theorem dL_law_766 : decode cL_law 766 = .ok (.iconst 0, 1) := by decide +kernel
theorem dL_law_767 : decode cL_law 767 = .ok (.invokevirtual 91, 3) := by decide +kernel
theorem dL_law_770 : decode cL_law 770 = .ok (.ifCond .eq 5, 3) := by decide +kernel
theorem dL_law_773 : decode cL_law 773 = .ok (.iconst 0, 1) := by decide +kernel
theorem dL_law_774 : decode cL_law 774 = .ok (.ireturn, 1) := by decide +kernel
theorem dL_law_775 : decode cL_law 775 = .ok (.aload_n 1, 1) := by decide +kernel
theorem dL_law_776 : decode cL_law 776 = .ok (.aload_n 0, 1) := by decide +kernel
theorem dL_law_777 : decode cL_law 777 = .ok (.iconst 4, 1) := by decide +kernel
theorem dL_law_778 : decode cL_law 778 = .ok (.invokestatic 53, 3) := by decide +kernel
theorem dL_law_781 : decode cL_law 781 = .ok (.invokevirtual 69, 3) := by decide +kernel
theorem dL_law_784 : decode cL_law 784 = .ok (.iconst 0, 1) := by decide +kernel
theorem dL_law_785 : decode cL_law 785 = .ok (.istore 5, 2) := by decide +kernel
theorem dL_law_787 : decode cL_law 787 = .ok (.iconst 0, 1) := by decide +kernel
theorem dL_law_788 : decode cL_law 788 = .ok (.istore 6, 2) := by decide +kernel
theorem dL_law_790 : decode cL_law 790 = .ok (.iload 5, 2) := by decide +kernel
theorem dL_law_792 : decode cL_law 792 = .ok (.iload 4, 2) := by decide +kernel
theorem dL_law_794 : decode cL_law 794 = .ok (.if_icmp .ge 69, 3) := by decide +kernel
theorem dL_law_797 : decode cL_law 797 = .ok (.iconst 1, 1) := by decide +kernel
theorem dL_law_798 : decode cL_law 798 = .ok (.aload_n 0, 1) := by decide +kernel
theorem dL_law_799 : decode cL_law 799 = .ok (.iload 6, 2) := by decide +kernel
theorem dL_law_801 : decode cL_law 801 = .ok (.bipush 96, 2) := by decide +kernel
theorem dL_law_803 : decode cL_law 803 = .ok (.irem, 1) := by decide +kernel
theorem dL_law_804 : decode cL_law 804 = .ok (.invokestatic 53, 3) := by decide +kernel
theorem dL_law_807 : decode cL_law 807 = .ok (.bipush 9, 2) := by decide +kernel
theorem dL_law_809 : decode cL_law 809 = .ok (.invokestatic 57, 3) := by decide +kernel
theorem dL_law_812 : decode cL_law 812 = .ok (.iadd, 1) := by decide +kernel
theorem dL_law_813 : decode cL_law 813 = .ok (.istore 7, 2) := by decide +kernel
theorem dL_law_815 : decode cL_law 815 = .ok (.iload 7, 2) := by decide +kernel
theorem dL_law_817 : decode cL_law 817 = .ok (.iload 4, 2) := by decide +kernel
theorem dL_law_819 : decode cL_law 819 = .ok (.iload 5, 2) := by decide +kernel
theorem dL_law_821 : decode cL_law 821 = .ok (.isub, 1) := by decide +kernel
theorem dL_law_822 : decode cL_law 822 = .ok (.if_icmp .ge 8, 3) := by decide +kernel
theorem dL_law_825 : decode cL_law 825 = .ok (.iload 7, 2) := by decide +kernel
theorem dL_law_827 : decode cL_law 827 = .ok (.goto 8, 3) := by decide +kernel
theorem dL_law_830 : decode cL_law 830 = .ok (.iload 4, 2) := by decide +kernel
theorem dL_law_832 : decode cL_law 832 = .ok (.iload 5, 2) := by decide +kernel
theorem dL_law_834 : decode cL_law 834 = .ok (.isub, 1) := by decide +kernel
theorem dL_law_835 : decode cL_law 835 = .ok (.istore 7, 2) := by decide +kernel
theorem dL_law_837 : decode cL_law 837 = .ok (.aload_n 1, 1) := by decide +kernel
theorem dL_law_838 : decode cL_law 838 = .ok (.iload 5, 2) := by decide +kernel
theorem dL_law_840 : decode cL_law 840 = .ok (.iload 7, 2) := by decide +kernel
theorem dL_law_842 : decode cL_law 842 = .ok (.invokevirtual 72, 3) := by decide +kernel
theorem dL_law_845 : decode cL_law 845 = .ok (.ifCond .ne 5, 3) := by decide +kernel
theorem dL_law_848 : decode cL_law 848 = .ok (.iconst 0, 1) := by decide +kernel
theorem dL_law_849 : decode cL_law 849 = .ok (.ireturn, 1) := by decide +kernel
theorem dL_law_850 : decode cL_law 850 = .ok (.iload 5, 2) := by decide +kernel
theorem dL_law_852 : decode cL_law 852 = .ok (.iload 7, 2) := by decide +kernel
theorem dL_law_854 : decode cL_law 854 = .ok (.iadd, 1) := by decide +kernel
theorem dL_law_855 : decode cL_law 855 = .ok (.istore 5, 2) := by decide +kernel
theorem dL_law_857 : decode cL_law 857 = .ok (.iinc 6 1, 3) := by decide +kernel
theorem dL_law_860 : decode cL_law 860 = .ok (.goto (-70), 3) := by decide +kernel
theorem dL_law_863 : decode cL_law 863 = .ok (.aload_n 1, 1) := by decide +kernel
theorem dL_law_864 : decode cL_law 864 = .ok (.invokevirtual 34, 3) := by decide +kernel
theorem dL_law_867 : decode cL_law 867 = .ok (.istore 5, 2) := by decide +kernel
theorem dL_law_869 : decode cL_law 869 = .ok (.iload 5, 2) := by decide +kernel
theorem dL_law_871 : decode cL_law 871 = .ok (.aload_n 1, 1) := by decide +kernel
theorem dL_law_872 : decode cL_law 872 = .ok (.iconst 0, 1) := by decide +kernel
theorem dL_law_873 : decode cL_law 873 = .ok (.iload 4, 2) := by decide +kernel
theorem dL_law_875 : decode cL_law 875 = .ok (.aload_n 0, 1) := by decide +kernel
theorem dL_law_876 : decode cL_law 876 = .ok (.iconst 4, 1) := by decide +kernel
theorem dL_law_877 : decode cL_law 877 = .ok (.invokestatic 53, 3) := by decide +kernel
theorem dL_law_880 : decode cL_law 880 = .ok (.invokevirtual 44, 3) := by decide +kernel
theorem dL_law_883 : decode cL_law 883 = .ok (.if_icmp .ne 30, 3) := by decide +kernel
theorem dL_law_886 : decode cL_law 886 = .ok (.iload 5, 2) := by decide +kernel
theorem dL_law_888 : decode cL_law 888 = .ok (.aload_n 3, 1) := by decide +kernel
theorem dL_law_889 : decode cL_law 889 = .ok (.iload 4, 2) := by decide +kernel
theorem dL_law_891 : decode cL_law 891 = .ok (.aload_n 0, 1) := by decide +kernel
theorem dL_law_892 : decode cL_law 892 = .ok (.iconst 4, 1) := by decide +kernel
theorem dL_law_893 : decode cL_law 893 = .ok (.invokestatic 53, 3) := by decide +kernel
theorem dL_law_896 : decode cL_law 896 = .ok (.invokestatic 30, 3) := by decide +kernel
theorem dL_law_899 : decode cL_law 899 = .ok (.if_icmp .ne 14, 3) := by decide +kernel
theorem dL_law_902 : decode cL_law 902 = .ok (.aload_n 1, 1) := by decide +kernel
theorem dL_law_903 : decode cL_law 903 = .ok (.invokevirtual 34, 3) := by decide +kernel
theorem dL_law_906 : decode cL_law 906 = .ok (.ifCond .ne 7, 3) := by decide +kernel
theorem dL_law_909 : decode cL_law 909 = .ok (.iconst 1, 1) := by decide +kernel
theorem dL_law_910 : decode cL_law 910 = .ok (.goto 4, 3) := by decide +kernel
theorem dL_law_913 : decode cL_law 913 = .ok (.iconst 0, 1) := by decide +kernel
theorem dL_law_914 : decode cL_law 914 = .ok (.ireturn, 1) := by decide +kernel
end
section
set_option maxRecDepth 20000
/-! PLAIN LAW: numbers, words of bytes, the hash itself. No program in sight. -/
/-- an int's 32 bits as a number; a long's 64 bits -/
def uN (x : Int32) : Nat := x.toBitVec.toNat
def uL (x : Int64) : Nat := x.toBitVec.toNat
theorem uN_lt (x : Int32) : uN x < 2 ^ 32 := x.toBitVec.isLt
theorem uL_lt (x : Int64) : uL x < 2 ^ 64 := x.toBitVec.isLt
theorem uN_of (n : Nat) : uN (nI n) = n % 2 ^ 32 := BitVec.toNat_ofNat n 32
theorem uN_small {n : Nat} (h : n < 2 ^ 32) : uN (nI n) = n := by rw [uN_of, Nat.mod_eq_of_lt h]
theorem uN_inj {x y : Int32} (h : uN x = uN y) : x = y := Int32.toBitVec_inj.mp (BitVec.eq_of_toNat_eq h)
theorem uL_inj {x y : Int64} (h : uL x = uL y) : x = y := Int64.toBitVec_inj.mp (BitVec.eq_of_toNat_eq h)
theorem nI_uN (x : Int32) : nI (uN x) = x := uN_inj (by rw [uN_of, Nat.mod_eq_of_lt (uN_lt x)])
theorem eq_nI {x : Int32} {n : Nat} (h : uN x = n % 2 ^ 32) : x = nI n := uN_inj (by rw [h, uN_of])
theorem nI_mod (n : Nat) : nI (n % 2 ^ 32) = nI n := uN_inj (by rw [uN_of, uN_of, Nat.mod_mod])
theorem nI_congr {a b : Nat} (h : a % 2 ^ 32 = b % 2 ^ 32) : nI a = nI b := by rw [← nI_mod a, h, nI_mod]
theorem uL_of (n : Nat) : uL (lN n) = n % 2 ^ 64 := BitVec.toNat_ofNat n 64
theorem eq_lN {x : Int64} {n : Nat} (h : uL x = n % 2 ^ 64) : x = lN n := uL_inj (by rw [h, uL_of])
/-! bits -/
theorem or_add {a b k z : Nat} (ha : a < 2 ^ k) (hb : b = 2 ^ k * z) : a ||| b = a + b := by
  subst hb
  rw [Nat.or_comm, ← Nat.two_pow_add_eq_or_of_lt ha, Nat.add_comm]
theorem or_add' {a b k z : Nat} (ha : a = 2 ^ k * z) (hb : b < 2 ^ k) : a ||| b = a + b := by
  subst ha
  rw [← Nat.two_pow_add_eq_or_of_lt hb]
theorem xor_or {a b k z : Nat} (ha : a < 2 ^ k) (hb : b = 2 ^ k * z) : a ^^^ b = a ||| b := by
  subst hb
  apply Nat.eq_of_testBit_eq
  intro i
  rw [Nat.testBit_xor, Nat.testBit_or, Nat.testBit_two_pow_mul]
  rcases Nat.lt_or_ge i k with h | h
  · simp [Nat.not_le.mpr h]
  · rw [Nat.testBit_lt_two_pow (Nat.lt_of_lt_of_le ha (Nat.pow_le_pow_right (by decide) h))]
    simp
theorem xor_add {a b k z : Nat} (ha : a < 2 ^ k) (hb : b = 2 ^ k * z) : a ^^^ b = a + b := by rw [xor_or ha hb, or_add ha hb]
theorem uN_or (x y : Int32) : uN (x ||| y) = uN x ||| uN y := by unfold uN; rw [Int32.toBitVec_or, BitVec.toNat_or]
theorem uN_xor (x y : Int32) : uN (x ^^^ y) = uN x ^^^ uN y := by unfold uN; rw [Int32.toBitVec_xor, BitVec.toNat_xor]
theorem uN_and255 (x : Int32) : uN (x &&& 255) = uN x % 256 := by
  rw [pk_and x 8 (m := 255) (by decide), uN_of]
  show uN x % 2 ^ 8 % 2 ^ 32 = _
  omega
theorem uN_shl (x s : Int32) (k : Nat) (hs : (s.toBitVec.smod 32).toNat = k) : uN (x <<< s) = uN x * 2 ^ k % 2 ^ 32 := pk_shl x s k hs
theorem uL_or (x y : Int64) : uL (x ||| y) = uL x ||| uL y := by unfold uL; rw [Int64.toBitVec_or, BitVec.toNat_or]
theorem uL_and32 (x : Int64) : uL (x &&& 4294967295) = uL x % 2 ^ 32 := by
  unfold uL
  rw [Int64.toBitVec_and, BitVec.toNat_and]
  show x.toBitVec.toNat &&& (2 ^ 32 - 1) = _
  rw [Nat.and_two_pow_sub_one_eq_mod]
theorem sl_64 : ∀ n, n < 64 → (((nI n).toInt64 &&& 63).toBitVec.smod 64).toNat = n := by decide +kernel
theorem su_64 : ∀ n, n < 64 → (((nI n).toInt64.toUInt64 &&& Int64.toUInt64 63).toBitVec % 64).toNat = n := by decide +kernel
theorem uL_shl (x : Int64) {n : Nat} (h : n < 64) : uL (x <<< ((nI n).toInt64 &&& 63)) = uL x * 2 ^ n % 2 ^ 64 := by
  show (x.toBitVec <<< (((nI n).toInt64 &&& 63).toBitVec.smod 64).toNat).toNat = _
  rw [sl_64 n h, BitVec.toNat_shiftLeft, Nat.shiftLeft_eq]
  rfl
theorem uL_ushr (x : Int64) {n : Nat} (h : n < 64) : uL (x.toUInt64 >>> ((nI n).toInt64.toUInt64 &&& Int64.toUInt64 63)).toInt64 = uL x / 2 ^ n := by
  have e : (x.toUInt64 >>> ((nI n).toInt64.toUInt64 &&& Int64.toUInt64 63)).toInt64.toBitVec = x.toBitVec >>> n := by
    conv => rhs; rw [← su_64 n h]
    exact UInt64.toBitVec_shiftRight _ _
  show (x.toUInt64 >>> ((nI n).toInt64.toUInt64 &&& Int64.toUInt64 63)).toInt64.toBitVec.toNat = _
  rw [e, BitVec.toNat_ushiftRight, Nat.shiftRight_eq_div_pow]
  rfl
theorem uN_l2i (x : Int64) : uN x.toInt32 = uL x % 2 ^ 32 := by
  unfold uN uL
  rw [Int64.toBitVec_toInt32, BitVec.signExtend_eq_setWidth_of_le _ (by decide), BitVec.toNat_setWidth]
theorem uL_i2l (x : Int32) : uL x.toInt64 % 2 ^ 32 = uN x := by
  have h := uN_lt x
  unfold uN uL at *
  rw [Int32.toBitVec_toInt64, BitVec.toNat_signExtend, BitVec.toNat_setWidth]
  split <;> omega
theorem uL_i2l_pos {n : Nat} (h : n < 2 ^ 31) : uL (nI n).toInt64 = n := by rw [nI_l h, uL_of]; omega
theorem uN_i2b (x : Int32) : uN x.toInt8.toInt32 % 256 = uN x % 256 := by
  have h := uN_lt x
  unfold uN at *
  rw [Int8.toBitVec_toInt32, BitVec.toNat_signExtend, BitVec.toNat_setWidth, Int32.toBitVec_toInt8, BitVec.signExtend_eq_setWidth_of_le _ (by decide), BitVec.toNat_setWidth]
  split <;> omega
theorem uN_nar (x : Int32) : uN (vp_nar .byte x) % 256 = uN x % 256 := by rw [vp_nar_byte, uN_i2b]
/-! words of bytes, the lowest first -/
/-- the number of the m bytes d i, d (i + 1), .., the lowest first -/
def wN (d : Nat → Nat) (i : Nat) : Nat → Nat
  | 0 => 0
  | m + 1 => wN d i m + d (i + m) % 256 * 256 ^ m
theorem wN_lt (d : Nat → Nat) (i m : Nat) : wN d i m < 256 ^ m := by
  induction m with
  | zero => simp [wN]
  | succ m ih =>
    have h2 : d (i + m) % 256 * 256 ^ m ≤ 255 * 256 ^ m := Nat.mul_le_mul_right _ (by omega)
    show wN d i m + d (i + m) % 256 * 256 ^ m < _
    rw [Nat.pow_succ]
    omega
theorem wN_split (d : Nat → Nat) (i a b : Nat) : wN d i (a + b) = wN d i a + 256 ^ a * wN d (i + a) b := by
  induction b with
  | zero => simp [wN]
  | succ b ih =>
    show wN d i (a + b) + d (i + (a + b)) % 256 * 256 ^ (a + b) = wN d i a + 256 ^ a * (wN d (i + a) b + d (i + a + b) % 256 * 256 ^ b)
    rw [ih, Nat.mul_add, Nat.pow_add, Nat.add_assoc i a b, Nat.add_assoc (wN d i a)]
    congr 2
    rw [Nat.mul_left_comm]
theorem wN_congr {d d' : Nat → Nat} {i i' : Nat} (m : Nat) (h : ∀ j, j < m → d (i + j) % 256 = d' (i' + j) % 256) : wN d i m = wN d' i' m := by
  induction m with
  | zero => rfl
  | succ m ih =>
    show wN d i m + d (i + m) % 256 * 256 ^ m = wN d' i' m + d' (i' + m) % 256 * 256 ^ m
    rw [ih (fun j hj => h j (by omega)), h m (by omega)]
/-- the bytes of a number, the lowest first -/
def gL (v j : Nat) : Nat := v / 256 ^ j
theorem wN_gL (v m : Nat) : wN (gL v) 0 m = v % 256 ^ m := by
  induction m with
  | zero => simp [wN, Nat.mod_one]
  | succ m ih =>
    show wN (gL v) 0 m + gL v (0 + m) % 256 * 256 ^ m = _
    rw [ih, Nat.zero_add, Nat.pow_succ, Nat.mod_mul, Nat.mul_comm (gL v m % 256)]
    rfl
theorem wN_1 (d : Nat → Nat) (i : Nat) : wN d i 1 = d i % 256 := by simp [wN]
theorem wN_4 (d : Nat → Nat) (i : Nat) : wN d i 4 = d i % 256 + d (i + 1) % 256 * 256 + d (i + 2) % 256 * 65536 + d (i + 3) % 256 * 16777216 := by
  simp [wN]
/-- data d of k bytes, and behind it g -/
def app (d : Nat → Nat) (k : Nat) (g : Nat → Nat) (j : Nat) : Nat := if j < k then d j else g (j - k)
theorem app_lo {d g : Nat → Nat} {k j : Nat} (h : j < k) : app d k g j = d j := if_pos h
theorem app_hi {d g : Nat → Nat} {k j : Nat} : app d k g (k + j) = g j := by unfold app; rw [if_neg (by omega), Nat.add_sub_cancel_left]
/-! the hash: MurmurHash3 for x86, 32 bits -/
def m_us (x s : Int32) : Int32 := (x.toUInt32 >>> (s.toUInt32 &&& Int32.toUInt32 31)).toInt32
def m_rl (x y : Int32) : Int32 := (x <<< (y &&& 31)) ||| m_us x (-y)
def m_k (k : Int32) : Int32 := m_rl (k * (-862048943)) 15 * 461845907
def m_h (h k : Int32) : Int32 := m_rl (h ^^^ k) 13 * 5 + (-430675100)
def m_f1 (a : Int32) : Int32 := (a ^^^ m_us a 16) * (-2048144789)
def m_f2 (a : Int32) : Int32 := (a ^^^ m_us a 13) * (-1028477387)
def m_f (h n : Int32) : Int32 := m_f2 (m_f1 (h ^^^ n)) ^^^ m_us (m_f2 (m_f1 (h ^^^ n))) 16
/-- n words of the data d mixed into seed -/
def m_blk (d : Nat → Nat) (seed : Int32) : Nat → Int32
  | 0 => seed
  | i + 1 => m_h (m_blk d seed i) (m_k (nI (wN d (4 * i) 4)))
/-- the hash of the n bytes of d -/
def m_hash (d : Nat → Nat) (n : Nat) (seed : Int32) : Int32 := m_f (m_blk d seed (n / 4) ^^^ m_k (nI (wN d (4 * (n / 4)) (n % 4)))) (nI n)
theorem m_us17 (x : Int32) : m_us x (-15) = m_us x 17 := by
  unfold m_us
  rw [show ((-15 : Int32).toUInt32 &&& Int32.toUInt32 31) = ((17 : Int32).toUInt32 &&& Int32.toUInt32 31) by decide]
theorem m_us19 (x : Int32) : m_us x (-13) = m_us x 19 := by
  unfold m_us
  rw [show ((-13 : Int32).toUInt32 &&& Int32.toUInt32 31) = ((19 : Int32).toUInt32 &&& Int32.toUInt32 31) by decide]
theorem m_k_law (k : Int32) : (((k * (-862048943)) <<< ((15 : Int32) &&& 31)) ||| m_us (k * (-862048943)) 17) * 461845907 = m_k k := by
  unfold m_k m_rl
  rw [m_us17]
theorem m_h_law (h k : Int32) : (((h ^^^ k) <<< ((13 : Int32) &&& 31)) ||| m_us (h ^^^ k) 19) * 5 + (-430675100) = m_h h k := by
  unfold m_h m_rl
  rw [m_us19]
theorem m_k0 : m_k 0 = 0 := by decide +kernel
theorem m_blk_congr {d d' : Nat → Nat} (seed : Int32) (n : Nat) (h : ∀ j, j < 4 * n → d j % 256 = d' j % 256) : m_blk d seed n = m_blk d' seed n := by
  induction n with
  | zero => rfl
  | succ n ih =>
    show m_h (m_blk d seed n) (m_k (nI (wN d (4 * n) 4))) = m_h (m_blk d' seed n) (m_k (nI (wN d' (4 * n) 4)))
    rw [ih (fun j hj => h j (by omega)), wN_congr 4 (fun j hj => h (4 * n + j) (by omega))]
theorem m_hash_congr {d d' : Nat → Nat} {n : Nat} (seed : Int32) (h : ∀ j, j < n → d j % 256 = d' j % 256) : m_hash d n seed = m_hash d' n seed := by
  unfold m_hash
  rw [m_blk_congr seed (n / 4) (fun j hj => h j (by omega)), wN_congr (n % 4) (fun j hj => h (4 * (n / 4) + j) (by omega))]
theorem nI_z : nI 0 = 0 := nI_0
theorem xor_z (x : Int32) : x ^^^ 0 = x := uN_inj (by rw [uN_xor]; show uN x ^^^ 0 = uN x; rw [Nat.xor_zero])
/-- four bytes, as Ints.fromBytes and as the law put them together -/
theorem le4_u (x0 x1 x2 x3 : Int32) : uN ((((x0 &&& 255) ||| ((x1 &&& 255) <<< ((8 : Int32) &&& 31))) ||| ((x2 &&& 255) <<< ((16 : Int32) &&& 31))) ||| (x3 <<< ((24 : Int32) &&& 31))) = uN x0 % 256 + uN x1 % 256 * 256 + uN x2 % 256 * 65536 + uN x3 % 256 * 16777216 := by
  rw [uN_or, uN_or, uN_or, uN_and255, uN_shl _ _ 8 (by decide), uN_shl _ _ 16 (by decide), uN_shl _ _ 24 (by decide), uN_and255, uN_and255]
  have e1 : uN x1 % 256 * 2 ^ 8 % 2 ^ 32 = 2 ^ 8 * (uN x1 % 256) := by omega
  have e2 : uN x2 % 256 * 2 ^ 16 % 2 ^ 32 = 2 ^ 16 * (uN x2 % 256) := by omega
  have e3 : uN x3 * 2 ^ 24 % 2 ^ 32 = 2 ^ 24 * (uN x3 % 256) := by rw [show (2 : Nat) ^ 32 = 256 * 2 ^ 24 from rfl, Nat.mul_mod_mul_right, Nat.mul_comm]
  rw [e1, e2, e3, or_add (k := 8) (z := uN x1 % 256) (by omega) rfl, or_add (k := 16) (z := uN x2 % 256) (by omega) rfl, or_add (k := 24) (z := uN x3 % 256) (by omega) rfl]
  omega
theorem le4_v (x0 x1 x2 x3 : Int32) : uN ((((x3 <<< ((24 : Int32) &&& 31)) ||| ((x2 &&& 255) <<< ((16 : Int32) &&& 31))) ||| ((x1 &&& 255) <<< ((8 : Int32) &&& 31))) ||| (x0 &&& 255)) = uN x0 % 256 + uN x1 % 256 * 256 + uN x2 % 256 * 65536 + uN x3 % 256 * 16777216 := by
  rw [uN_or, uN_or, uN_or, uN_and255, uN_shl _ ((24 : Int32) &&& 31) 24 (by decide), uN_shl _ ((16 : Int32) &&& 31) 16 (by decide), uN_shl _ ((8 : Int32) &&& 31) 8 (by decide), uN_and255, uN_and255]
  have e1 : uN x1 % 256 * 2 ^ 8 % 2 ^ 32 = 2 ^ 8 * (uN x1 % 256) := by omega
  have e2 : uN x2 % 256 * 2 ^ 16 % 2 ^ 32 = 2 ^ 16 * (uN x2 % 256) := by omega
  have e3 : uN x3 * 2 ^ 24 % 2 ^ 32 = 2 ^ 24 * (uN x3 % 256) := by rw [show (2 : Nat) ^ 32 = 256 * 2 ^ 24 from rfl, Nat.mul_mod_mul_right, Nat.mul_comm]
  rw [e1, e2, e3, or_add' (a := 2 ^ 24 * (uN x3 % 256)) (b := 2 ^ 16 * (uN x2 % 256)) (k := 24) (z := uN x3 % 256) rfl (by omega), or_add' (a := 2 ^ 24 * (uN x3 % 256) + 2 ^ 16 * (uN x2 % 256)) (b := 2 ^ 8 * (uN x1 % 256)) (k := 16) (z := 2 ^ 8 * (uN x3 % 256) + uN x2 % 256) (by omega) (by omega), or_add' (a := 2 ^ 24 * (uN x3 % 256) + 2 ^ 16 * (uN x2 % 256) + 2 ^ 8 * (uN x1 % 256)) (b := uN x0 % 256) (k := 8) (z := 2 ^ 16 * (uN x3 % 256) + 2 ^ 8 * (uN x2 % 256) + uN x1 % 256) (by omega) (by omega)]
  omega
theorem le4_nI (f : Nat → Int32) (a : Nat) {x : Int32} (h : uN x = uN (f a) % 256 + uN (f (a + 1)) % 256 * 256 + uN (f (a + 2)) % 256 * 65536 + uN (f (a + 3)) % 256 * 16777216) : x = nI (wN (fun j => uN (f j)) a 4) := by
  apply eq_nI
  rw [h, wN_4]
  omega
/-- the law's tail, from the top byte down -/
theorem tail_step (d : Nat → Nat) (a m : Nat) (hm : m ≤ 2) (x : Int32) (hx : uN x % 256 = d a % 256) : ((nI (wN d (a + 1) m)) <<< ((8 : Int32) &&& 31)) ||| (x &&& 255) = nI (wN d a (m + 1)) := by
  have hlt : wN d (a + 1) m < 65536 := Nat.lt_of_lt_of_le (wN_lt d (a + 1) m) (Nat.pow_le_pow_right (by decide) hm : 256 ^ m ≤ 256 ^ 2)
  apply eq_nI
  have hs := wN_split d a 1 m
  rw [wN_1] at hs
  rw [Nat.add_comm m 1, hs, uN_or, uN_and255, uN_shl _ _ 8 (by decide), uN_small (by omega), hx]
  rw [or_add' (k := 8) (z := wN d (a + 1) m) (by omega) (by omega)]
  omega
/-- hashBytes' tail, from the low byte up -/
theorem xor_step (d : Nat → Nat) (q r : Nat) (hr : r ≤ 2) (x : Int32) (hx : uN x % 256 = d (q + r) % 256) : (nI (wN d q r)) ^^^ ((x &&& 255) <<< (nI (8 * r) &&& 31)) = nI (wN d q (r + 1)) := by
  have hlt := wN_lt d q r
  apply eq_nI
  show _ = (wN d q r + d (q + r) % 256 * 256 ^ r) % 2 ^ 32
  rw [uN_xor, ← hx]
  rcases (show r = 0 ∨ r = 1 ∨ r = 2 by omega) with rfl | rfl | rfl
  · rw [uN_shl _ _ 0 (by decide), uN_and255, uN_small (by omega), xor_add (k := 0) (z := uN x % 256) (by omega) (by omega)]
    omega
  · rw [uN_shl _ _ 8 (by decide), uN_and255, uN_small (by omega), xor_add (k := 8) (z := uN x % 256) (by omega) (by omega)]
    omega
  · rw [uN_shl _ _ 16 (by decide), uN_and255, uN_small (by omega), xor_add (k := 16) (z := uN x % 256) (by omega) (by omega)]
    omega
/-! the hasher: its cells picture k bytes of the data d under a seed -/
def HS (seed : Int32) (d : Nat → Nat) (k : Nat) (h1 : Int32) (buf : Int64) (sh : Int32) : Prop := h1 = m_blk d seed (k / 4) ∧ buf = lN (wN d (4 * (k / 4)) (k % 4)) ∧ sh = nI (8 * (k % 4))
theorem HS_0 (seed : Int32) (d : Nat → Nat) : HS seed d 0 seed 0 0 := ⟨rfl, rfl, rfl⟩
theorem HS_congr {seed : Int32} {d d' : Nat → Nat} {k : Nat} {h1 : Int32} {buf : Int64} {sh : Int32} (h : HS seed d k h1 buf sh) (hd : ∀ j, j < k → d j % 256 = d' j % 256) : HS seed d' k h1 buf sh := by
  obtain ⟨a, b, c⟩ := h
  refine ⟨?_, ?_, c⟩
  · rw [a]; exact m_blk_congr seed (k / 4) (fun j hj => hd j (by omega))
  · rw [b, wN_congr (k % 4) (fun j hj => hd (4 * (k / 4) + j) (by omega))]
theorem HS_end {seed : Int32} {d : Nat → Nat} {k : Nat} {h1 : Int32} {buf : Int64} {sh : Int32} (h : HS seed d k h1 buf sh) : m_f (h1 ^^^ m_k buf.toInt32) (nI k) = m_hash d k seed := by
  obtain ⟨a, b, -⟩ := h
  rw [a, b, lN_i]
  rfl
/-- what update's buffer is, ahead of its branch -/
def up_b (buf v : Int64) (sh : Int32) : Int64 := buf ||| ((v &&& 4294967295) <<< (sh.toInt64 &&& 63))
theorem up_bN {d : Nat → Nat} {k n w : Nat} {v : Int64} (hv : uL v % 2 ^ 32 = w) (hw : w < 256 ^ n) (hn : n ≤ 4) : up_b (lN (wN d (4 * (k / 4)) (k % 4))) v (nI (8 * (k % 4))) = lN (wN (app d k (gL w)) (4 * (k / 4)) (k % 4 + n)) := by
  have hr : k % 4 < 4 := Nat.mod_lt _ (by decide)
  have hw4 : w < 2 ^ 32 := by rw [← hv]; exact Nat.mod_lt _ (by decide)
  have h1 : wN (app d k (gL w)) (4 * (k / 4)) (k % 4) = wN d (4 * (k / 4)) (k % 4) := wN_congr _ (fun j hj => by rw [app_lo (by omega)])
  have h2 : wN (app d k (gL w)) (4 * (k / 4) + k % 4) n = w := by
    rw [Nat.div_add_mod k 4, show wN (app d k (gL w)) k n = wN (gL w) 0 n from wN_congr _ (fun j _ => by rw [app_hi, Nat.zero_add]), wN_gL, Nat.mod_eq_of_lt hw]
  have h3 := wN_lt d (4 * (k / 4)) (k % 4)
  rw [wN_split, h1, h2]
  apply eq_lN
  unfold up_b
  rw [uL_or, uL_shl _ (by omega), uL_and32, hv, uL_of]
  generalize wN d (4 * (k / 4)) (k % 4) = B at *
  generalize k % 4 = r at *
  rcases (show r = 0 ∨ r = 1 ∨ r = 2 ∨ r = 3 by omega) with rfl | rfl | rfl | rfl
  · rw [Nat.mod_eq_of_lt (a := B) (by omega), or_add (k := 0) (z := w) (by omega) (by omega)]; omega
  · rw [Nat.mod_eq_of_lt (a := B) (by omega), or_add (k := 8) (z := w) (by omega) (by omega)]; omega
  · rw [Nat.mod_eq_of_lt (a := B) (by omega), or_add (k := 16) (z := w) (by omega) (by omega)]; omega
  · rw [Nat.mod_eq_of_lt (a := B) (by omega), or_add (k := 24) (z := w) (by omega) (by omega)]; omega
/-- update without a block -/
theorem HS_lo {seed : Int32} {d : Nat → Nat} {k n w : Nat} {h1 : Int32} {buf v : Int64} {sh : Int32} (h : HS seed d k h1 buf sh) (hv : uL v % 2 ^ 32 = w) (hw : w < 256 ^ n) (hn : n ≤ 4) (hlo : k % 4 + n < 4) : HS seed (app d k (gL w)) (k + n) h1 (up_b buf v sh) (nI (8 * (k % 4 + n))) := by
  obtain ⟨a, b, c⟩ := h
  have e1 : (k + n) / 4 = k / 4 := by omega
  have e2 : (k + n) % 4 = k % 4 + n := by omega
  refine ⟨?_, ?_, by rw [e2]⟩
  · rw [a, e1]; exact m_blk_congr seed _ (fun j hj => by rw [app_lo (by omega)])
  · rw [b, c, up_bN hv hw hn, e1, e2]
/-- update with a block -/
theorem HS_hi {seed : Int32} {d : Nat → Nat} {k n w : Nat} {h1 : Int32} {buf v : Int64} {sh : Int32} (h : HS seed d k h1 buf sh) (hv : uL v % 2 ^ 32 = w) (hw : w < 256 ^ n) (hn : n ≤ 4) (hhi : 4 ≤ k % 4 + n) : HS seed (app d k (gL w)) (k + n) (m_h h1 (m_k (up_b buf v sh).toInt32)) ((up_b buf v sh).toUInt64 >>> ((nI 32).toInt64.toUInt64 &&& Int64.toUInt64 63)).toInt64 (nI (8 * (k % 4 + n) - 32)) := by
  obtain ⟨a, b, c⟩ := h
  have e1 : (k + n) / 4 = k / 4 + 1 := by omega
  have e2 : (k + n) % 4 = k % 4 + n - 4 := by omega
  have hX : up_b buf v sh = lN (wN (app d k (gL w)) (4 * (k / 4)) (k % 4 + n)) := by rw [b, c, up_bN hv hw hn]
  have hs := wN_split (app d k (gL w)) (4 * (k / 4)) 4 (k % 4 + n - 4)
  rw [show 4 + (k % 4 + n - 4) = k % 4 + n by omega] at hs
  have hl4 := wN_lt (app d k (gL w)) (4 * (k / 4)) 4
  have hl3 : wN (app d k (gL w)) (4 * (k / 4) + 4) (k % 4 + n - 4) < 256 ^ 3 := Nat.lt_of_lt_of_le (wN_lt _ _ _) (Nat.pow_le_pow_right (by decide) (by omega))
  refine ⟨?_, ?_, by rw [e2]; congr 1; omega⟩
  · rw [hX, lN_i, e1]
    show _ = m_h (m_blk (app d k (gL w)) seed (k / 4)) (m_k (nI (wN (app d k (gL w)) (4 * (k / 4)) 4)))
    rw [a, m_blk_congr (d := d) (d' := app d k (gL w)) seed (k / 4) (fun j hj => by rw [app_lo (by omega)])]
    congr 2
    apply nI_congr
    rw [hs]
    omega
  · apply eq_lN
    rw [uL_ushr _ (by decide), hX, uL_of, hs, e1, e2, Nat.mul_add, Nat.mul_one]
    omega
/-- behind an update the data may be said otherwise -/
theorem HS_app {seed : Int32} {d g g' : Nat → Nat} {k n : Nat} {h1 : Int32} {buf : Int64} {sh : Int32} (h : HS seed (app d k g) (k + n) h1 buf sh) (hg : ∀ j, j < n → g j % 256 = g' j % 256) : HS seed (app d k g') (k + n) h1 buf sh := by
  refine HS_congr h (fun j hj => ?_)
  rcases Nat.lt_or_ge j k with q | q
  · rw [app_lo q, app_lo q]
  · obtain ⟨i, rfl⟩ := Nat.exists_eq_add_of_le q
    rw [app_hi, app_hi]
    exact hg i (by omega)
/-- two runs of bytes, one behind the other -/
theorem HS_two {seed : Int32} {d g g1 g2 : Nat → Nat} {k a b : Nat} {h1 : Int32} {buf : Int64} {sh : Int32} (h : HS seed (app (app d k g1) (k + a) g2) (k + a + b) h1 buf sh) (hg1 : ∀ j, j < a → g1 j % 256 = g j % 256) (hg2 : ∀ j, j < b → g2 j % 256 = g (a + j) % 256) : HS seed (app d k g) (k + (a + b)) h1 buf sh := by
  rw [← Nat.add_assoc]
  refine HS_congr h (fun j hj => ?_)
  rcases Nat.lt_or_ge j k with q | q
  · rw [app_lo q, app_lo (by omega), app_lo q]
  · obtain ⟨i, rfl⟩ := Nat.exists_eq_add_of_le q
    rw [app_hi (k := k)]
    rcases Nat.lt_or_ge i a with z | z
    · rw [app_lo (by omega), app_hi]
      exact hg1 i z
    · obtain ⟨i2, rfl⟩ := Nat.exists_eq_add_of_le z
      rw [← Nat.add_assoc, app_hi]
      exact hg2 i2 (by omega)
theorem gL_1 (x : Nat) : ∀ j, j < 1 → gL (x % 256) j % 256 = x % 256 := by
  intro j hj
  have e : j = 0 := by omega
  subst e
  unfold gL
  rw [Nat.pow_zero, Nat.div_one, Nat.mod_mod]
/-- the low bytes of a number are those of its low word -/
theorem gL_mod (v : Nat) {j m : Nat} (h : j < m) : gL (v % 256 ^ m) j % 256 = gL v j % 256 := by
  unfold gL
  have e : 256 ^ m = 256 ^ j * 256 ^ (m - j) := by rw [← Nat.pow_add]; congr 1; omega
  rw [e, Nat.mod_mul_right_div_self, show m - j = m - j - 1 + 1 by omega, Nat.pow_succ, Nat.mul_comm, Nat.mod_mul_right_mod]
theorem gL_div (v a j : Nat) : gL (v / 256 ^ a) j = gL v (a + j) := by
  unfold gL
  rw [Nat.div_div_eq_div_mul, ← Nat.pow_add]
/-- the bytes of the word that stands at a -/
theorem gL_w (d : Nat → Nat) (a : Nat) {j m : Nat} (h : j < m) : gL (wN d a m) j % 256 = d (a + j) % 256 := by
  have hs := wN_split d a j (m - j)
  rw [show j + (m - j) = m by omega] at hs
  have h1 := wN_lt d a j
  have h2 := wN_split d (a + j) 1 (m - j - 1)
  rw [show 1 + (m - j - 1) = m - j by omega, wN_1] at h2
  unfold gL
  rw [hs, Nat.add_comm, Nat.mul_add_div (Nat.pow_pos (by decide)), Nat.div_eq_of_lt h1, Nat.add_zero, h2, Nat.pow_one, Nat.add_mul_mod_self_left, Nat.mod_mod]
/-- hashInt, hashLong: the blocks by hand -/
theorem m_hash4 (v seed : Int32) : m_f (m_h seed (m_k v)) 4 = m_hash (gL (uN v)) 4 seed := by
  unfold m_hash
  have h := uN_lt v
  rw [show 4 / 4 = 1 from rfl, show 4 % 4 = 0 from rfl]
  show _ = m_f (m_h seed (m_k (nI (wN (gL (uN v)) (4 * 0) 4))) ^^^ m_k (nI 0)) (nI 4)
  rw [Nat.mul_zero, wN_gL, nI_z, m_k0, xor_z, Nat.mod_eq_of_lt (by omega), nI_uN]
  rfl
theorem m_hash8 (v : Nat) (lo hi seed : Int32) (hlo : uN lo = v % 2 ^ 32) (hhi : uN hi = v / 2 ^ 32 % 2 ^ 32) : m_f (m_h (m_h seed (m_k lo)) (m_k hi)) 8 = m_hash (gL v) 8 seed := by
  unfold m_hash
  rw [show 8 / 4 = 2 from rfl, show 8 % 4 = 0 from rfl]
  show _ = m_f (m_h (m_h seed (m_k (nI (wN (gL v) (4 * 0) 4)))) (m_k (nI (wN (gL v) (4 * 1) 4))) ^^^ m_k (nI 0)) (nI 8)
  have e2 : wN (gL v) (4 * 1) 4 = v / 2 ^ 32 % 2 ^ 32 := by
    rw [show wN (gL v) (4 * 1) 4 = wN (gL (v / 256 ^ 4)) 0 4 from wN_congr _ (fun j _ => by rw [gL_div]; congr 2; omega), wN_gL]
  rw [Nat.mul_zero, wN_gL, nI_z, m_k0, xor_z, e2, show v % 256 ^ 4 = v % 2 ^ 32 from rfl, ← hlo, ← hhi, nI_uN, nI_uN]
  rfl
/-- the remainder that the law and the class draw -/
def mdN (v : Int32) (n : Nat) : Nat := uN v % 2 ^ 31 % n
theorem mdN_lt (v : Int32) {n : Nat} (h : 0 < n) : mdN v n < n := Nat.mod_lt _ h
theorem mdN_rem (v : Int32) {n : Nat} (h0 : 0 < n) (h : n < 2 ^ 31) : (v &&& 2147483647) - (v &&& 2147483647) / nI n * nI n = nI (mdN v n) := by
  rw [pk_and v 31 (m := 2147483647) (by decide)]
  exact pk_rem (Nat.mod_lt _ (by decide)) h0 h
/-- a long of two ints -/
def m_wd (hi lo : Int32) : Int64 := (hi.toInt64 <<< ((32 : Int32).toInt64 &&& 63)) ||| (lo.toInt64 &&& 4294967295)
theorem nI_inc (a b : Nat) {x : Int32} (h : x = nI b) : nI a + x = nI (a + b) := by rw [h, nI_add]
theorem io_1 : Int32.ofInt 1 = nI 1 := by decide +kernel
theorem io_4 : Int32.ofInt 4 = nI 4 := by decide +kernel
theorem io_6 : Int32.ofInt 6 = nI 6 := by decide +kernel
theorem io_8 : Int32.ofInt 8 = nI 8 := by decide +kernel
theorem io_16 : Int32.ofInt 16 = nI 16 := by decide +kernel
theorem io_m : Int32.ofInt (-1) = -1 := by decide +kernel
theorem nI_o1 (a : Nat) : nI a + Int32.ofInt 1 = nI (a + 1) := by rw [io_1, nI_add]
theorem nI_o4 (a : Nat) : nI a + Int32.ofInt 4 = nI (a + 4) := by rw [io_4, nI_add]
theorem nI_o6 (a : Nat) : nI a + Int32.ofInt 6 = nI (a + 6) := by rw [io_6, nI_add]
theorem nI_o8 (a : Nat) : nI a + Int32.ofInt 8 = nI (a + 8) := by rw [io_8, nI_add]
theorem nI_o16 (a : Nat) : nI a + Int32.ofInt 16 = nI (a + 16) := by rw [io_16, nI_add]
theorem nI_om (a : Nat) : nI (a + 1) + Int32.ofInt (-1) = nI a := by rw [io_m, pk_m1]
theorem lt_of_nle {a b : Nat} (ha : a < 2 ^ 31) (hb : b < 2 ^ 31) (h : ¬ nI a ≤ nI b) : b < a := Nat.lt_of_not_le (fun q => h ((nI_leI ha hb).mpr q))
theorem le_of_nlt {a b : Nat} (ha : a < 2 ^ 31) (hb : b < 2 ^ 31) (h : ¬ nI a < nI b) : b ≤ a := Nat.le_of_not_lt (fun q => h ((nI_ltI ha hb).mpr q))
theorem le_of_nI {a b : Nat} (ha : a < 2 ^ 31) (hb : b < 2 ^ 31) (h : nI a ≤ nI b) : a ≤ b := (nI_leI ha hb).mp h
theorem lt_of_nI {a b : Nat} (ha : a < 2 ^ 31) (hb : b < 2 ^ 31) (h : nI a < nI b) : a < b := (nI_ltI ha hb).mp h
end
section
set_option maxRecDepth 100000
/-! WHAT EVERY METHOD CARRIES: the worlds' kinds, the words that ride at a contract's start, a call and its join in one row -/
abbrev vwCl : List vw_C := [(RX0, TX0, 3), (RX1, TX1, 4), (RX3, TX3, 2), (RX7, TX7, 1), (RX9, TX9, 5)]
def yH_putBytes : MethodName := ⟨"Hasher", "putBytes", "([BII)LHasher;"⟩
def yH_putByte : MethodName := ⟨"Hasher", "putByte", "(B)LHasher;"⟩
def yH_putInt : MethodName := ⟨"Hasher", "putInt", "(I)LHasher;"⟩
def yH_putLong : MethodName := ⟨"Hasher", "putLong", "(J)LHasher;"⟩
def yH_hash : MethodName := ⟨"Hasher", "hash", "()LHashCode;"⟩
def yA_asInt : MethodName := ⟨"HashCode", "asInt", "()I"⟩
def hk_nw (U : State) : Prop :=
  va_Nw (.methodLinkNest RX9 49 yX3_getIntLittleEndian RX3) U ∧ va_Nw (.methodLinkNest RX9 29 yX3_mixK1 RX3) U ∧ va_Nw (.methodLinkNest RX9 35 yX3_mixH1 RX3) U ∧ va_Nw (.methodLinkNest RX9 61 yX3_fmix RX3) U ∧ va_Nw (.declares yA_asInt) U ∧
  va_Fw RX9 yH_putBytes yX9_putBytes U ∧ va_Fw RX9 yH_putByte yX9_putByte U ∧ va_Fw RX9 yH_putInt yX9_putInt U ∧ va_Fw RX9 yH_putLong yX9_putLong U ∧ va_Fw RX9 yH_hash yX9_hash U
theorem hk_nw_of {A : Array Value} {s : State} (h : ∀ w ∈ lw_tbl, w.before A s = true) : hk_nw s :=
  ⟨va_Nw.of rfl (h _ q198), va_Nw.of rfl (h _ q209), va_Nw.of rfl (h _ q217), va_Nw.of rfl (h _ q303), va_Nw.of rfl (h _ q325),
    va_Fw.of (h _ q122) (h _ q121) (h _ q127) (h _ q125) (h _ q123), va_Fw.of (h _ q232) (h _ q231) (h _ q235) (h _ q234) (h _ q123), va_Fw.of (h _ q243) (h _ q242) (h _ q247) (h _ q245) (h _ q123),
    va_Fw.of (h _ q260) (h _ q259) (h _ q264) (h _ q262) (h _ q123), va_Fw.of (h _ q273) (h _ q272) (h _ q277) (h _ q275) (h _ q123)⟩
theorem hk_nw_warm {s U : State} (hW : s.WarmedH U.vm) (h : hk_nw s) : hk_nw U := by
  obtain ⟨a, b, c, d, x, f1, f2, f3, f4, f5⟩ := h
  exact ⟨va_Nw.warmM hW a, va_Nw.warmM hW b, va_Nw.warmM hW c, va_Nw.warmM hW d, va_Nw.warmD hW x, va_Fw.moved ⟨by decide +kernel, by decide +kernel⟩ hW.alike f1, va_Fw.moved ⟨by decide +kernel, by decide +kernel⟩ hW.alike f2, va_Fw.moved ⟨by decide +kernel, by decide +kernel⟩ hW.alike f3, va_Fw.moved ⟨by decide +kernel, by decide +kernel⟩ hW.alike f4, va_Fw.moved ⟨by decide +kernel, by decide +kernel⟩ hW.alike f5⟩
theorem hk_nw_same {u U : State} (hvm : u.vm = U.vm) (h : hk_nw u) : hk_nw U := by
  obtain ⟨a, b, c, d, x, f1, f2, f3, f4, f5⟩ := h
  have ha : u.vm.Alike U.vm := by rw [hvm]; exact Vm.Alike.refl U.vm
  exact ⟨va_Nw.same rfl hvm a, va_Nw.same rfl hvm b, va_Nw.same rfl hvm c, va_Nw.same rfl hvm d, va_Nw.same rfl hvm x, va_Fw.moved ⟨by decide +kernel, by decide +kernel⟩ ha f1, va_Fw.moved ⟨by decide +kernel, by decide +kernel⟩ ha f2, va_Fw.moved ⟨by decide +kernel, by decide +kernel⟩ ha f3, va_Fw.moved ⟨by decide +kernel, by decide +kernel⟩ ha f4, va_Fw.moved ⟨by decide +kernel, by decide +kernel⟩ ha f5⟩
abbrev hk_T : Type := List (ClassId × FieldType)
/-- the start of a method that only reads -/
def hk_C (D : va_G) (w : va_W) (tys : hk_T) (U : State) : Prop := va_P D vwCl w U.heap ∧ va_K D vwCl tys U ∧ hk_nw U
/-- the start of a method that writes or makes cells -/
def hk_B (D : va_G) (w : va_W) (tys : hk_T) (sz : Nat) (U : State) : Prop := U.heap.size = sz ∧ va_P D vwCl w U.heap ∧ va_K D vwCl tys U ∧ va_D (fun _ => True) w ∧ hk_nw U
/-- its end -/
def hk_E (D : va_G) (w : va_W) (tys : hk_T) (A : Nat → Prop) (t : State) : Prop := va_P D vwCl w t.heap ∧ va_K D vwCl tys t ∧ va_D A w
theorem hk_C_b {D : va_G} {w : va_W} {tys : hk_T} {av : List Value} : FrameBlind (va_Pc av (hk_C D w tys)) := fun a U g mk q => ⟨q.1, q.2.1, va_K.moved (u := U) (U := U.calling g mk a) (Vm.Alike.refl U.vm) q.2.2.1, hk_nw_same (u := U) (U := U.calling g mk a) rfl q.2.2.2⟩
theorem hk_B_b {D : va_G} {w : va_W} {tys : hk_T} {sz : Nat} {av : List Value} : FrameBlind (va_Pc av (hk_B D w tys sz)) := fun a U g mk q => ⟨q.1, q.2.1, q.2.2.1, va_K.moved (u := U) (U := U.calling g mk a) (Vm.Alike.refl U.vm) q.2.2.2.1, q.2.2.2.2.1, hk_nw_same (u := U) (U := U.calling g mk a) rfl q.2.2.2.2.2⟩
section HKP
variable {D : va_G} {w : va_W} {tys : hk_T} {H : Heap} {s : State} {A : Nat → Prop} {av As : List Value} {b : Nat} {C : String}
theorem hk_CS (hP : va_P D vwCl w H) (hK : va_K D vwCl tys s) (hN : hk_nw s) : PreS s H (va_Pc av (hk_C D w tys)) av := ⟨hk_C_b, fun U hU hW => ⟨rfl, by rw [hU]; exact hP, va_K.moved hW.alike hK, hk_nw_warm hW hN⟩⟩
theorem hk_CV (hP : va_P D vwCl w H) (hK : va_K D vwCl tys s) (hN : hk_nw s) (hr : ∃ cell : Cell, H[b]? = some cell ∧ cell.vm.isStatics = false ∧ s.vm.findClass C = some cell.cls) : PreV s H C b (va_Pc (.ref b :: As) (hk_C D w tys)) As := ⟨hk_C_b, hr, fun U hU hW => ⟨rfl, by rw [hU]; exact hP, va_K.moved hW.alike hK, hk_nw_warm hW hN⟩⟩
theorem hk_BS (hP : va_P D vwCl w H) (hK : va_K D vwCl tys s) (hN : hk_nw s) (hD : va_D A w) : PreS s H (va_Pc av (hk_B D w tys H.size)) av := ⟨hk_B_b, fun U hU hW => ⟨rfl, by rw [hU], by rw [hU]; exact hP, va_K.moved hW.alike hK, hD.weaken (fun _ _ _ _ => trivial), hk_nw_warm hW hN⟩⟩
theorem hk_BV (hP : va_P D vwCl w H) (hK : va_K D vwCl tys s) (hN : hk_nw s) (hD : va_D A w) (hr : ∃ cell : Cell, H[b]? = some cell ∧ cell.vm.isStatics = false ∧ s.vm.findClass C = some cell.cls) : PreV s H C b (va_Pc (.ref b :: As) (hk_B D w tys H.size)) As := ⟨hk_B_b, hr, fun U hU hW => ⟨rfl, by rw [hU], by rw [hU]; exact hP, va_K.moved hW.alike hK, hD.weaken (fun _ _ _ _ => trivial), hk_nw_warm hW hN⟩⟩
theorem hk_at {t : State} (ht : t.heap = H) (hW : s.WarmedH t.vm) (hP : va_P D vwCl w H) (hK : va_K D vwCl tys s) (hD : va_D A w) : hk_E D w tys A t := ⟨by rw [ht]; exact hP, va_K.moved hW.alike hK, hD⟩
end HKP
section HKC
variable {p : Program} {l : Launch} {e : Env} {R : Room} {s : State} {m : MethodId} {args : Array Value} {below : List Frame} {meth : Method} {c : Code} {H : Heap} {locs : List Loc} {cells slots : Nat} {Q : State → Prop}
variable {pc : Nat} {ls : Array Slot} {rest st0 : List Value} {a : Array Value} {A : Nat → Prop} {mc ms : Nat} {D : va_G} {ws wc wr : va_W} {tys : hk_T}
theorem hk_ti {x y : Int32} (h : x = y) (k : W p l e R s m args below meth c H locs cells slots Q (F0 m pc ls (.int y :: rest))) : W p l e R s m args below meth c H locs cells slots Q (F0 m pc ls (.int x :: rest)) := by rw [h]; exact k
theorem hk_tl {x y : Int64} (h : x = y) (k : W p l e R s m args below meth c H locs cells slots Q (F0 m pc ls (.long y :: rest))) : W p l e R s m args below meth c H locs cells slots Q (F0 m pc ls (.long x :: rest)) := by rw [h]; exact k
theorem hk_ci {S : Type} {post : Int32 → S → Prop} {Wf : S → va_W} {tf : S → hk_T} (hr : va_Run p l e R s m args below meth c H locs cells slots mc ms (F0 m pc ls st0) rest (va_Qi post (fun u => hk_E D (Wf u) (tf u) (va_A wc H.size)) (va_A wc H.size) a) (va_A wc H.size))
    (hP : va_P D vwCl ws H) (hD : va_D A ws) (hK : va_K D vwCl tys s) (hS : va_S A s.heap H locs) (hA : ∀ q : Nat, s.heap.size ≤ q → A q) (isC isR : List Nat) (hC : isC.map (fun i => ws[i]?) = wc.map some) (hR : isR.map (fun i => ws[i]?) = wr.map some) (hn : va_nd isR = true) (hdis : ∀ i ∈ isR, i ∉ isC)
    (kk : ∀ (r : Int32) (u : S) (H1 : Heap) (locs1 : List Loc), post r u → va_P D vwCl (wr ++ Wf u) H1 → va_D A (wr ++ Wf u) → va_K D vwCl (tys ++ tf u) s → va_S A s.heap H1 locs1 → W p l e R s m args below meth c H1 locs1 (cells + mc) (slots + ms) Q (F0 m (pc + 3) ls (.int r :: rest))) : W p l e R s m args below meth c H locs cells slots Q (F0 m pc ls st0) := by
  have hF := va_free hD hS hA isC hC
  refine va_calli hr hS (fun q _ h => hF q h) hF (fun r u t H1 locs1 ht hvm hw hB hz hk hS1 => ?_)
  obtain ⟨hP1, hK1, hD1⟩ := hB
  rw [ht] at hP1
  obtain ⟨hP2, hD2⟩ := va_join hP hD isC isR hC hR hn hdis hk hF hP1 hD1
  exact kk r u H1 locs1 hw hP2 hD2 (hK.app (va_K.moved hvm.symm hK1)) hS1
theorem hk_cv {S : Type} {post : S → Prop} {Wf : S → va_W} {tf : S → hk_T} (hr : va_Run p l e R s m args below meth c H locs cells slots mc ms (F0 m pc ls st0) rest (va_Qv post (fun u => hk_E D (Wf u) (tf u) (va_A wc H.size)) (va_A wc H.size) a) (va_A wc H.size))
    (hP : va_P D vwCl ws H) (hD : va_D A ws) (hK : va_K D vwCl tys s) (hS : va_S A s.heap H locs) (hA : ∀ q : Nat, s.heap.size ≤ q → A q) (isC isR : List Nat) (hC : isC.map (fun i => ws[i]?) = wc.map some) (hR : isR.map (fun i => ws[i]?) = wr.map some) (hn : va_nd isR = true) (hdis : ∀ i ∈ isR, i ∉ isC)
    (kk : ∀ (u : S) (H1 : Heap) (locs1 : List Loc), post u → va_P D vwCl (wr ++ Wf u) H1 → va_D A (wr ++ Wf u) → va_K D vwCl (tys ++ tf u) s → va_S A s.heap H1 locs1 → W p l e R s m args below meth c H1 locs1 (cells + mc) (slots + ms) Q (F0 m (pc + 3) ls rest)) : W p l e R s m args below meth c H locs cells slots Q (F0 m pc ls st0) := by
  have hF := va_free hD hS hA isC hC
  refine va_callv hr hS (fun q _ h => hF q h) hF (fun u t H1 locs1 ht hvm hw hB hz hk hS1 => ?_)
  obtain ⟨hP1, hK1, hD1⟩ := hB
  rw [ht] at hP1
  obtain ⟨hP2, hD2⟩ := va_join hP hD isC isR hC hR hn hdis hk hF hP1 hD1
  exact kk u H1 locs1 hw hP2 hD2 (hK.app (va_K.moved hvm.symm hK1)) hS1
theorem hk_cr {S : Type} {post : S → Prop} {Wf : S → Nat → va_W} {tf : S → hk_T} (hr : va_Run p l e R s m args below meth c H locs cells slots mc ms (F0 m pc ls st0) rest (va_Qr post (fun u q => hk_E D (Wf u q) (tf u) (va_A wc H.size)) (va_A wc H.size) a) (va_A wc H.size))
    (hP : va_P D vwCl ws H) (hD : va_D A ws) (hK : va_K D vwCl tys s) (hS : va_S A s.heap H locs) (hA : ∀ q : Nat, s.heap.size ≤ q → A q) (isC isR : List Nat) (hC : isC.map (fun i => ws[i]?) = wc.map some) (hR : isR.map (fun i => ws[i]?) = wr.map some) (hn : va_nd isR = true) (hdis : ∀ i ∈ isR, i ∉ isC)
    (kk : ∀ (u : S) (ra : Nat) (H1 : Heap) (locs1 : List Loc), post u → va_P D vwCl (wr ++ Wf u ra) H1 → va_D A (wr ++ Wf u ra) → va_K D vwCl (tys ++ tf u) s → va_S A s.heap H1 locs1 → W p l e R s m args below meth c H1 locs1 (cells + mc) (slots + ms) Q (F0 m (pc + 3) ls (.ref ra :: rest))) : W p l e R s m args below meth c H locs cells slots Q (F0 m pc ls st0) := by
  have hF := va_free hD hS hA isC hC
  refine va_callr hr hS (fun q _ h => hF q h) hF (fun u ra t H1 locs1 ht hvm hw hB hz hk hS1 => ?_)
  obtain ⟨hP1, hK1, hD1⟩ := hB
  rw [ht] at hP1
  obtain ⟨hP2, hD2⟩ := va_join hP hD isC isR hC hR hn hdis hk hF hP1 hD1
  exact kk u ra H1 locs1 hw hP2 hD2 (hK.app (va_K.moved hvm.symm hK1)) hS1
theorem hk_cFr {S : Type} {post : S → Prop} {Wf : S → Nat → va_W} {tf : S → hk_T} (hr : va_Run5 p l e R s m args below meth c H locs cells slots mc ms (F0 m pc ls st0) rest (va_Qr post (fun u q => hk_E D (Wf u q) (tf u) (va_A wc H.size)) (va_A wc H.size) a) (va_A wc H.size))
    (hP : va_P D vwCl ws H) (hD : va_D A ws) (hK : va_K D vwCl tys s) (hS : va_S A s.heap H locs) (hA : ∀ q : Nat, s.heap.size ≤ q → A q) (isC isR : List Nat) (hC : isC.map (fun i => ws[i]?) = wc.map some) (hR : isR.map (fun i => ws[i]?) = wr.map some) (hn : va_nd isR = true) (hdis : ∀ i ∈ isR, i ∉ isC)
    (kk : ∀ (u : S) (ra : Nat) (H1 : Heap) (locs1 : List Loc), post u → va_P D vwCl (wr ++ Wf u ra) H1 → va_D A (wr ++ Wf u ra) → va_K D vwCl (tys ++ tf u) s → va_S A s.heap H1 locs1 → W p l e R s m args below meth c H1 locs1 (cells + mc) (slots + ms) Q (F0 m (pc + 5) ls (.ref ra :: rest))) : W p l e R s m args below meth c H locs cells slots Q (F0 m pc ls st0) := by
  have hF := va_free hD hS hA isC hC
  refine va_callFr hr hS (fun q _ h => hF q h) hF (fun u ra t H1 locs1 ht hvm hw hB hz hk hS1 => ?_)
  obtain ⟨hP1, hK1, hD1⟩ := hB
  rw [ht] at hP1
  obtain ⟨hP2, hD2⟩ := va_join hP hD isC isR hC hR hn hdis hk hF hP1 hD1
  exact kk u ra H1 locs1 hw hP2 hD2 (hK.app (va_K.moved hvm.symm hK1)) hS1
end HKC
end
section
/-! THE METHODS THAT ONLY READ, without a loop -/
set_option maxHeartbeats 4000000 in
set_option maxRecDepth 100000 in
/-- Integer.rotateLeft -/
theorem met_rl (l : Launch) (D : va_G) (x y : Int32) : Met l yJ4_rotateLeft (ws_ yJ4_rotateLeft cJ4_rotateLeft 2 (some .int)) ({ frames := 0, cells := 0, slots := 0, locals := 0 }) (va_Pc [.int x, .int y] (hk_C D [] [])) (vp_Si (fun r => r = m_rl x y)) 0 0 (fun _ => False) := by
  refine Met.ofW (cc := cJ4_rotateLeft) (maxL := 2) (ret := (some .int)) (by decide +kernel) rfl ?_
  intro p e s m args below meth c s₁ B hml hv
  obtain ⟨rfl, hP, hK, hN⟩ := hv
  have hx := B.exec
  have hb := B.bytes
  have hr := B.returns
  have hts := atoms_spec (ws := (ws_ yJ4_rotateLeft cJ4_rotateLeft 2 (some .int))) B.pre
  have hts : ∀ w ∈ lw_all, w.before _ s = true := fun w h => hts w (List.mem_cons_of_mem _ h)
  have hown : s.vm.findClass RJ4 = some m.cls := findClass_of_methodNamed B.named
  have hlocks := B.notSynchronized
  have hP : va_P D vwCl [] s.heap := hP
  have hl := lv_entry ([.int x, .int y]) (n := 2) (Nat.le_of_ble_eq_true rfl)
  rw [lg_entry_eq]
  generalize (lg_sl ([.int x, .int y]) ++ List.replicate (2 - (lg_sl ([.int x, .int y])).length) Slot.unset).toArray = ls at hl ⊢
  have hl : lv_has ls 2 [(0, .int x), (1, .int y)] := hl
  refine lv_iload_n hx hb dJ4_rotateLeft_0 rfl (lv_at hl 0 rfl) ?_
  refine lv_iload_n hx hb dJ4_rotateLeft_1 rfl (lv_at hl 1 rfl) ?_
  refine lv_ishl hx hb dJ4_rotateLeft_2 ?_
  refine lv_iload_n hx hb dJ4_rotateLeft_3 rfl (lv_at hl 0 rfl) ?_
  refine lv_iload_n hx hb dJ4_rotateLeft_4 rfl (lv_at hl 1 rfl) ?_
  refine lv_ineg hx hb dJ4_rotateLeft_5 ?_
  refine lv_iushr (v := m_us x (-y)) hx hb dJ4_rotateLeft_6 rfl ?_
  refine lv_ior hx hb dJ4_rotateLeft_7 ?_
  exact W.iret (v := (x <<< (y &&& 31)) ||| (m_us x (-y))) hx hb hr (fun t ht hW => ⟨_, rfl, rfl, ht⟩) (fun q hq => by cases hq) dJ4_rotateLeft_8
set_option maxHeartbeats 4000000 in
set_option maxRecDepth 100000 in
/-- Byte.toUnsignedInt -/
theorem met_tu (l : Launch) (D : va_G) (x : Int32) : Met l yJ5_toUnsignedInt (ws_ yJ5_toUnsignedInt cJ5_toUnsignedInt 1 (some .int)) ({ frames := 0, cells := 0, slots := 0, locals := 0 }) (va_Pc [.int x] (hk_C D [] [])) (vp_Si (fun r => r = x &&& 255)) 0 0 (fun _ => False) := by
  refine Met.ofW (cc := cJ5_toUnsignedInt) (maxL := 1) (ret := (some .int)) (by decide +kernel) rfl ?_
  intro p e s m args below meth c s₁ B hml hv
  obtain ⟨rfl, hP, hK, hN⟩ := hv
  have hx := B.exec
  have hb := B.bytes
  have hr := B.returns
  have hts := atoms_spec (ws := (ws_ yJ5_toUnsignedInt cJ5_toUnsignedInt 1 (some .int))) B.pre
  have hts : ∀ w ∈ lw_all, w.before _ s = true := fun w h => hts w (List.mem_cons_of_mem _ h)
  have hown : s.vm.findClass RJ5 = some m.cls := findClass_of_methodNamed B.named
  have hlocks := B.notSynchronized
  have hP : va_P D vwCl [] s.heap := hP
  have hl := lv_entry ([.int x]) (n := 1) (Nat.le_of_ble_eq_true rfl)
  rw [lg_entry_eq]
  generalize (lg_sl ([.int x]) ++ List.replicate (1 - (lg_sl ([.int x])).length) Slot.unset).toArray = ls at hl ⊢
  have hl : lv_has ls 1 [(0, .int x)] := hl
  refine lv_iload_n hx hb dJ5_toUnsignedInt_0 rfl (lv_at hl 0 rfl) ?_
  refine lv_sipush (v := 255) hx hb dJ5_toUnsignedInt_1 (by decide) ?_
  refine lv_iand hx hb dJ5_toUnsignedInt_4 ?_
  exact W.iret (v := x &&& 255) hx hb hr (fun t ht hW => ⟨_, rfl, rfl, ht⟩) (fun q hq => by cases hq) dJ5_toUnsignedInt_5
set_option maxHeartbeats 4000000 in
set_option maxRecDepth 100000 in
/-- Ints.fromBytes -/
theorem met_fb (l : Launch) (D : va_G) (x3 x2 x1 x0 : Int32) : Met l yX5_fromBytes (ws_ yX5_fromBytes cX5_fromBytes 4 (some .int)) ({ frames := 0, cells := 0, slots := 0, locals := 0 }) (va_Pc [.int x3, .int x2, .int x1, .int x0] (hk_C D [] [])) (vp_Si (fun r => uN r = uN x0 % 256 + uN x1 % 256 * 256 + uN x2 % 256 * 65536 + uN x3 % 256 * 16777216)) 0 0 (fun _ => False) := by
  refine Met.ofW (cc := cX5_fromBytes) (maxL := 4) (ret := (some .int)) (by decide +kernel) rfl ?_
  intro p e s m args below meth c s₁ B hml hv
  obtain ⟨rfl, hP, hK, hN⟩ := hv
  have hx := B.exec
  have hb := B.bytes
  have hr := B.returns
  have hts := atoms_spec (ws := (ws_ yX5_fromBytes cX5_fromBytes 4 (some .int))) B.pre
  have hts : ∀ w ∈ lw_all, w.before _ s = true := fun w h => hts w (List.mem_cons_of_mem _ h)
  have hown : s.vm.findClass RX5 = some m.cls := findClass_of_methodNamed B.named
  have hlocks := B.notSynchronized
  have hP : va_P D vwCl [] s.heap := hP
  have hl := lv_entry ([.int x3, .int x2, .int x1, .int x0]) (n := 4) (Nat.le_of_ble_eq_true rfl)
  rw [lg_entry_eq]
  generalize (lg_sl ([.int x3, .int x2, .int x1, .int x0]) ++ List.replicate (4 - (lg_sl ([.int x3, .int x2, .int x1, .int x0])).length) Slot.unset).toArray = ls at hl ⊢
  have hl : lv_has ls 4 [(0, .int x3), (1, .int x2), (2, .int x1), (3, .int x0)] := hl
  refine lv_iload_n hx hb dX5_fromBytes_0 rfl (lv_at hl 0 rfl) ?_
  refine lv_bipush (v := 24) hx hb dX5_fromBytes_1 (by decide) ?_
  refine lv_ishl hx hb dX5_fromBytes_3 ?_
  refine lv_iload_n hx hb dX5_fromBytes_4 rfl (lv_at hl 1 rfl) ?_
  refine lv_sipush (v := 255) hx hb dX5_fromBytes_5 (by decide) ?_
  refine lv_iand hx hb dX5_fromBytes_8 ?_
  refine lv_bipush (v := 16) hx hb dX5_fromBytes_9 (by decide) ?_
  refine lv_ishl hx hb dX5_fromBytes_11 ?_
  refine lv_ior hx hb dX5_fromBytes_12 ?_
  refine lv_iload_n hx hb dX5_fromBytes_13 rfl (lv_at hl 2 rfl) ?_
  refine lv_sipush (v := 255) hx hb dX5_fromBytes_14 (by decide) ?_
  refine lv_iand hx hb dX5_fromBytes_17 ?_
  refine lv_bipush (v := 8) hx hb dX5_fromBytes_18 (by decide) ?_
  refine lv_ishl hx hb dX5_fromBytes_20 ?_
  refine lv_ior hx hb dX5_fromBytes_21 ?_
  refine lv_iload_n hx hb dX5_fromBytes_22 rfl (lv_at hl 3 rfl) ?_
  refine lv_sipush (v := 255) hx hb dX5_fromBytes_23 (by decide) ?_
  refine lv_iand hx hb dX5_fromBytes_26 ?_
  refine lv_ior hx hb dX5_fromBytes_27 ?_
  exact W.iret (v := (((x3 <<< (24 &&& 31)) ||| ((x2 &&& 255) <<< (16 &&& 31))) ||| ((x1 &&& 255) <<< (8 &&& 31))) ||| (x0 &&& 255)) hx hb hr (fun t ht hW => ⟨_, rfl, le4_v x0 x1 x2 x3, ht⟩) (fun q hq => by cases hq) dX5_fromBytes_28
set_option maxHeartbeats 4000000 in
set_option maxRecDepth 100000 in
/-- mixK1 -/
theorem met_mk (l : Launch) (D : va_G) (x : Int32) : Met l yX3_mixK1 (ws_ yX3_mixK1 cX3_mixK1 1 (some .int)) ({ frames := 1, cells := 0, slots := 0, locals := 21 }) (va_Pc [.int x] (hk_C D [] [])) (vp_Si (fun r => r = m_k x)) 0 0 (fun _ => False) := by
  refine Met.ofW (cc := cX3_mixK1) (maxL := 1) (ret := (some .int)) (by decide +kernel) rfl ?_
  intro p e s m args below meth c s₁ B hml hv
  obtain ⟨rfl, hP, hK, hN⟩ := hv
  have hx := B.exec
  have hb := B.bytes
  have hr := B.returns
  have hts := atoms_spec (ws := (ws_ yX3_mixK1 cX3_mixK1 1 (some .int))) B.pre
  have hts : ∀ w ∈ lw_all, w.before _ s = true := fun w h => hts w (List.mem_cons_of_mem _ h)
  have hown : s.vm.findClass RX3 = some m.cls := findClass_of_methodNamed B.named
  have hlocks := B.notSynchronized
  have hP : va_P D vwCl [] s.heap := hP
  have hl := lv_entry ([.int x]) (n := 1) (Nat.le_of_ble_eq_true rfl)
  rw [lg_entry_eq]
  generalize (lg_sl ([.int x]) ++ List.replicate (1 - (lg_sl ([.int x])).length) Slot.unset).toArray = ls at hl ⊢
  have hl : lv_has ls 1 [(0, .int x)] := hl
  refine lv_iload_n hx hb dX3_mixK1_0 rfl (lv_at hl 0 rfl) ?_
  refine lv_ldc hx hb hown (hts _ q212) dX3_mixK1_1 ?_
  refine lv_imul hx hb dX3_mixK1_3 ?_
  refine lv_istore_n (lv' := [(0, .int (x * (-862048943)))]) hx hb dX3_mixK1_4 rfl hl (by decide) rfl (fun ls hl => ?_)
  refine lv_iload_n hx hb dX3_mixK1_5 rfl (lv_at hl 0 rfl) ?_
  refine lv_bipush (v := 15) hx hb dX3_mixK1_6 (by decide) ?_
  refine vp_callSi (va_Run.run (va_runS (As := [.int (x * (-862048943)), .int 15]) (rest := []) ⟨hx, hb, hml, hown, hts⟩ (met_rl l D (x * (-862048943)) 15) (va_cwS 2 hts (lw_S q213 q214 q17 q215) rfl rfl rfl (by decide +kernel) ⟨Nat.le_of_ble_eq_true rfl, Nat.le_of_ble_eq_true rfl⟩) (hk_CS (hP.sub (ws' := []) [] rfl) (hK.sub (tys' := []) [] rfl) hN) rfl rfl hl.1 rfl (lv_room (Nat.le_of_ble_eq_true rfl)) dX3_mixK1_8 ⟨Nat.le_of_ble_eq_true rfl, Nat.le_of_ble_eq_true rfl⟩)) (fun r_1 hr_1 => ?_)
  obtain rfl : r_1 = m_rl (x * (-862048943)) 15 := hr_1
  refine lv_istore_n (lv' := [(0, .int (m_rl (x * (-862048943)) 15))]) hx hb dX3_mixK1_11 rfl hl (by decide) rfl (fun ls hl => ?_)
  refine lv_iload_n hx hb dX3_mixK1_12 rfl (lv_at hl 0 rfl) ?_
  refine lv_ldc hx hb hown (hts _ q216) dX3_mixK1_13 ?_
  refine lv_imul hx hb dX3_mixK1_15 ?_
  refine lv_istore_n (lv' := [(0, .int ((m_rl (x * (-862048943)) 15) * 461845907))]) hx hb dX3_mixK1_16 rfl hl (by decide) rfl (fun ls hl => ?_)
  refine lv_iload_n hx hb dX3_mixK1_17 rfl (lv_at hl 0 rfl) ?_
  exact W.iret (v := (m_rl (x * (-862048943)) 15) * 461845907) hx hb hr (fun t ht hW => ⟨_, rfl, rfl, ht⟩) (fun q hq => by cases hq) dX3_mixK1_18
set_option maxHeartbeats 4000000 in
set_option maxRecDepth 100000 in
/-- mixH1 -/
theorem met_mh (l : Launch) (D : va_G) (h k : Int32) : Met l yX3_mixH1 (ws_ yX3_mixH1 cX3_mixH1 2 (some .int)) ({ frames := 1, cells := 0, slots := 0, locals := 21 }) (va_Pc [.int h, .int k] (hk_C D [] [])) (vp_Si (fun r => r = m_h h k)) 0 0 (fun _ => False) := by
  refine Met.ofW (cc := cX3_mixH1) (maxL := 2) (ret := (some .int)) (by decide +kernel) rfl ?_
  intro p e s m args below meth c s₁ B hml hv
  obtain ⟨rfl, hP, hK, hN⟩ := hv
  have hx := B.exec
  have hb := B.bytes
  have hr := B.returns
  have hts := atoms_spec (ws := (ws_ yX3_mixH1 cX3_mixH1 2 (some .int))) B.pre
  have hts : ∀ w ∈ lw_all, w.before _ s = true := fun w h => hts w (List.mem_cons_of_mem _ h)
  have hown : s.vm.findClass RX3 = some m.cls := findClass_of_methodNamed B.named
  have hlocks := B.notSynchronized
  have hP : va_P D vwCl [] s.heap := hP
  have hl := lv_entry ([.int h, .int k]) (n := 2) (Nat.le_of_ble_eq_true rfl)
  rw [lg_entry_eq]
  generalize (lg_sl ([.int h, .int k]) ++ List.replicate (2 - (lg_sl ([.int h, .int k])).length) Slot.unset).toArray = ls at hl ⊢
  have hl : lv_has ls 2 [(0, .int h), (1, .int k)] := hl
  refine lv_iload_n hx hb dX3_mixH1_0 rfl (lv_at hl 0 rfl) ?_
  refine lv_iload_n hx hb dX3_mixH1_1 rfl (lv_at hl 1 rfl) ?_
  refine lv_ixor hx hb dX3_mixH1_2 ?_
  refine lv_istore_n (lv' := [(0, .int (h ^^^ k)), (1, .int k)]) hx hb dX3_mixH1_3 rfl hl (by decide) rfl (fun ls hl => ?_)
  refine lv_iload_n hx hb dX3_mixH1_4 rfl (lv_at hl 0 rfl) ?_
  refine lv_bipush (v := 13) hx hb dX3_mixH1_5 (by decide) ?_
  refine vp_callSi (va_Run.run (va_runS (As := [.int (h ^^^ k), .int 13]) (rest := []) ⟨hx, hb, hml, hown, hts⟩ (met_rl l D (h ^^^ k) 13) (va_cwS 2 hts (lw_S q213 q214 q17 q215) rfl rfl rfl (by decide +kernel) ⟨Nat.le_of_ble_eq_true rfl, Nat.le_of_ble_eq_true rfl⟩) (hk_CS (hP.sub (ws' := []) [] rfl) (hK.sub (tys' := []) [] rfl) hN) rfl rfl hl.1 rfl (lv_room (Nat.le_of_ble_eq_true rfl)) dX3_mixH1_7 ⟨Nat.le_of_ble_eq_true rfl, Nat.le_of_ble_eq_true rfl⟩)) (fun r_1 hr_1 => ?_)
  obtain rfl : r_1 = m_rl (h ^^^ k) 13 := hr_1
  refine lv_istore_n (lv' := [(0, .int (m_rl (h ^^^ k) 13)), (1, .int k)]) hx hb dX3_mixH1_10 rfl hl (by decide) rfl (fun ls hl => ?_)
  refine lv_iload_n hx hb dX3_mixH1_11 rfl (lv_at hl 0 rfl) ?_
  refine lv_iconst (v := 5) hx hb dX3_mixH1_12 (by decide) ?_
  refine lv_imul hx hb dX3_mixH1_13 ?_
  refine lv_ldc hx hb hown (hts _ q220) dX3_mixH1_14 ?_
  refine lv_iadd hx hb dX3_mixH1_16 ?_
  refine lv_istore_n (lv' := [(0, .int (((m_rl (h ^^^ k) 13) * 5) + (-430675100))), (1, .int k)]) hx hb dX3_mixH1_17 rfl hl (by decide) rfl (fun ls hl => ?_)
  refine lv_iload_n hx hb dX3_mixH1_18 rfl (lv_at hl 0 rfl) ?_
  exact W.iret (v := ((m_rl (h ^^^ k) 13) * 5) + (-430675100)) hx hb hr (fun t ht hW => ⟨_, rfl, rfl, ht⟩) (fun q hq => by cases hq) dX3_mixH1_19
set_option maxHeartbeats 4000000 in
set_option maxRecDepth 100000 in
/-- getIntLittleEndian -/
theorem met_gi (l : Launch) (D : va_G) (h0 n0 : Nat) (c0 : ClassId) (a0 : Nat → Int32) (i : Nat) (hn : n0 < 2 ^ 30) (hi : i + 4 ≤ n0) : Met l yX3_getIntLittleEndian (ws_ yX3_getIntLittleEndian cX3_getIntLittleEndian 2 (some .int)) ({ frames := 1, cells := 0, slots := 0, locals := 23 }) (va_Pc [.ref h0, .int (nI i)] (hk_C D [(h0, .inl (c0, n0, .inl a0))] [(c0, .byte)])) (vp_Si (fun r => r = nI (wN (fun j => uN (a0 j)) i 4))) 0 0 (fun _ => False) := by
  refine Met.ofW (cc := cX3_getIntLittleEndian) (maxL := 2) (ret := (some .int)) (by decide +kernel) rfl ?_
  intro p e s m args below meth c s₁ B hml hv
  obtain ⟨rfl, hP, hK, hN⟩ := hv
  have hx := B.exec
  have hb := B.bytes
  have hr := B.returns
  have hts := atoms_spec (ws := (ws_ yX3_getIntLittleEndian cX3_getIntLittleEndian 2 (some .int))) B.pre
  have hts : ∀ w ∈ lw_all, w.before _ s = true := fun w h => hts w (List.mem_cons_of_mem _ h)
  have hown : s.vm.findClass RX3 = some m.cls := findClass_of_methodNamed B.named
  have hlocks := B.notSynchronized
  have hP : va_P D vwCl [(h0, .inl (c0, n0, .inl a0))] s.heap := hP
  have hl := lv_entry ([.ref h0, .int (nI i)]) (n := 2) (Nat.le_of_ble_eq_true rfl)
  rw [lg_entry_eq]
  generalize (lg_sl ([.ref h0, .int (nI i)]) ++ List.replicate (2 - (lg_sl ([.ref h0, .int (nI i)])).length) Slot.unset).toArray = ls at hl ⊢
  have hl : lv_has ls 2 [(0, .ref h0), (1, .int (nI i))] := hl
  refine lv_aload_n hx hb dX3_getIntLittleEndian_0 rfl (lv_at hl 0 rfl) ?_
  refine lv_iload_n hx hb dX3_getIntLittleEndian_1 rfl (lv_at hl 1 rfl) ?_
  refine lv_iconst (v := 3) hx hb dX3_getIntLittleEndian_2 (by decide) ?_
  refine lv_iadd hx hb dX3_getIntLittleEndian_3 ?_
  refine hk_ti (y := nI (i + 3)) (nI_inc i 3 rfl) ?_
  refine va_bald hx hb hK hP 0 0 rfl rfl (vp_in_nI (by omega) (by omega)) dX3_getIntLittleEndian_4 ?_
  refine hk_ti (y := a0 (i + 3)) (by rw [nI_clamp (by omega)]) ?_
  refine lv_aload_n hx hb dX3_getIntLittleEndian_5 rfl (lv_at hl 0 rfl) ?_
  refine lv_iload_n hx hb dX3_getIntLittleEndian_6 rfl (lv_at hl 1 rfl) ?_
  refine lv_iconst (v := 2) hx hb dX3_getIntLittleEndian_7 (by decide) ?_
  refine lv_iadd hx hb dX3_getIntLittleEndian_8 ?_
  refine hk_ti (y := nI (i + 2)) (nI_inc i 2 rfl) ?_
  refine va_bald hx hb hK hP 0 0 rfl rfl (vp_in_nI (by omega) (by omega)) dX3_getIntLittleEndian_9 ?_
  refine hk_ti (y := a0 (i + 2)) (by rw [nI_clamp (by omega)]) ?_
  refine lv_aload_n hx hb dX3_getIntLittleEndian_10 rfl (lv_at hl 0 rfl) ?_
  refine lv_iload_n hx hb dX3_getIntLittleEndian_11 rfl (lv_at hl 1 rfl) ?_
  refine lv_iconst (v := 1) hx hb dX3_getIntLittleEndian_12 (by decide) ?_
  refine lv_iadd hx hb dX3_getIntLittleEndian_13 ?_
  refine hk_ti (y := nI (i + 1)) (nI_inc i 1 rfl) ?_
  refine va_bald hx hb hK hP 0 0 rfl rfl (vp_in_nI (by omega) (by omega)) dX3_getIntLittleEndian_14 ?_
  refine hk_ti (y := a0 (i + 1)) (by rw [nI_clamp (by omega)]) ?_
  refine lv_aload_n hx hb dX3_getIntLittleEndian_15 rfl (lv_at hl 0 rfl) ?_
  refine lv_iload_n hx hb dX3_getIntLittleEndian_16 rfl (lv_at hl 1 rfl) ?_
  refine va_bald hx hb hK hP 0 0 rfl rfl (vp_in_nI (by omega) (by omega)) dX3_getIntLittleEndian_17 ?_
  refine hk_ti (y := a0 i) (by rw [nI_clamp (by omega)]) ?_
  refine vp_callSi (va_Run.run (va_runS (As := [.int (a0 (i + 3)), .int (a0 (i + 2)), .int (a0 (i + 1)), .int (a0 i)]) (rest := []) ⟨hx, hb, hml, hown, hts⟩ (met_fb l D (a0 (i + 3)) (a0 (i + 2)) (a0 (i + 1)) (a0 i)) (va_cwS 4 hts (lw_S q201 q202 q16 q203) rfl rfl rfl (by decide +kernel) ⟨Nat.le_of_ble_eq_true rfl, Nat.le_of_ble_eq_true rfl⟩) (hk_CS (hP.sub (ws' := []) [] rfl) (hK.sub (tys' := []) [] rfl) hN) rfl rfl hl.1 rfl (lv_room (Nat.le_of_ble_eq_true rfl)) dX3_getIntLittleEndian_18 ⟨Nat.le_of_ble_eq_true rfl, Nat.le_of_ble_eq_true rfl⟩)) (fun r hr2 => ?_)
  exact W.iret (v := r) hx hb hr (fun t ht hW => ⟨_, rfl, le4_nI a0 i hr2, ht⟩) (fun q hq => by cases hq) dX3_getIntLittleEndian_21
set_option maxHeartbeats 4000000 in
set_option maxRecDepth 100000 in
/-- checkState(true) -/
theorem met_cs (l : Launch) (D : va_G)  : Met l yX4_checkState (ws_ yX4_checkState cX4_checkState 1 none) ({ frames := 0, cells := 0, slots := 0, locals := 0 }) (va_Pc [.int 1] (hk_C D [] [])) (va_Sv (fun _ => True)) 0 0 (fun _ => False) := by
  refine Met.ofW (cc := cX4_checkState) (maxL := 1) (ret := none) (by decide +kernel) rfl ?_
  intro p e s m args below meth c s₁ B hml hv
  obtain ⟨rfl, hP, hK, hN⟩ := hv
  have hx := B.exec
  have hb := B.bytes
  have hr := B.returns
  have hts := atoms_spec (ws := (ws_ yX4_checkState cX4_checkState 1 none)) B.pre
  have hts : ∀ w ∈ lw_all, w.before _ s = true := fun w h => hts w (List.mem_cons_of_mem _ h)
  have hown : s.vm.findClass RX4 = some m.cls := findClass_of_methodNamed B.named
  have hlocks := B.notSynchronized
  have hP : va_P D vwCl [] s.heap := hP
  have hl := lv_entry ([.int 1]) (n := 1) (Nat.le_of_ble_eq_true rfl)
  rw [lg_entry_eq]
  generalize (lg_sl ([.int 1]) ++ List.replicate (1 - (lg_sl ([.int 1])).length) Slot.unset).toArray = ls at hl ⊢
  have hl : lv_has ls 1 [(0, .int 1)] := hl
  refine lv_iload_n hx hb dX4_checkState_0 rfl (lv_at hl 0 rfl) ?_
  refine lv_if_ne (tgt := 12) hx hb dX4_checkState_1 (by decide) (fun c_1 => ?_) (fun c_1 => absurd c_1 (by decide))
  exact W.vret hx hb hr (fun t ht hW => ⟨rfl, trivial, ht⟩) (fun q hq => by cases hq) dX4_checkState_12
set_option maxHeartbeats 4000000 in
set_option maxRecDepth 100000 in
/-- checkPositionIndexes of places in order -/
theorem met_cp (l : Launch) (D : va_G) (a b n : Nat) (hab : a ≤ b) (hbn : b ≤ n) (hn : n < 2 ^ 30) : Met l yX4_checkPositionIndexes (ws_ yX4_checkPositionIndexes cX4_checkPositionIndexes 3 none) ({ frames := 0, cells := 0, slots := 0, locals := 0 }) (va_Pc [.int (nI a), .int (nI b), .int (nI n)] (hk_C D [] [])) (va_Sv (fun _ => True)) 0 0 (fun _ => False) := by
  refine Met.ofW (cc := cX4_checkPositionIndexes) (maxL := 3) (ret := none) (by decide +kernel) rfl ?_
  intro p e s m args below meth c s₁ B hml hv
  obtain ⟨rfl, hP, hK, hN⟩ := hv
  have hx := B.exec
  have hb := B.bytes
  have hr := B.returns
  have hts := atoms_spec (ws := (ws_ yX4_checkPositionIndexes cX4_checkPositionIndexes 3 none)) B.pre
  have hts : ∀ w ∈ lw_all, w.before _ s = true := fun w h => hts w (List.mem_cons_of_mem _ h)
  have hown : s.vm.findClass RX4 = some m.cls := findClass_of_methodNamed B.named
  have hlocks := B.notSynchronized
  have hP : va_P D vwCl [] s.heap := hP
  have hl := lv_entry ([.int (nI a), .int (nI b), .int (nI n)]) (n := 3) (Nat.le_of_ble_eq_true rfl)
  rw [lg_entry_eq]
  generalize (lg_sl ([.int (nI a), .int (nI b), .int (nI n)]) ++ List.replicate (3 - (lg_sl ([.int (nI a), .int (nI b), .int (nI n)])).length) Slot.unset).toArray = ls at hl ⊢
  have hl : lv_has ls 3 [(0, .int (nI a)), (1, .int (nI b)), (2, .int (nI n))] := hl
  refine lv_iload_n hx hb dX4_checkPositionIndexes_0 rfl (lv_at hl 0 rfl) ?_
  refine lv_if_lt (tgt := 14) hx hb dX4_checkPositionIndexes_1 (by decide) (fun c_1 => absurd c_1 (nI_pos (by omega))) (fun c_1 => ?_)
  refine lv_iload_n hx hb dX4_checkPositionIndexes_4 rfl (lv_at hl 1 rfl) ?_
  refine lv_iload_n hx hb dX4_checkPositionIndexes_5 rfl (lv_at hl 0 rfl) ?_
  refine lv_icmp_lt (tgt := 14) hx hb dX4_checkPositionIndexes_6 (by decide) (fun c_2 => absurd c_2 (nI_nlt hab (by omega))) (fun c_2 => ?_)
  refine lv_iload_n hx hb dX4_checkPositionIndexes_9 rfl (lv_at hl 1 rfl) ?_
  refine lv_iload_n hx hb dX4_checkPositionIndexes_10 rfl (lv_at hl 2 rfl) ?_
  refine lv_icmp_le (tgt := 24) hx hb dX4_checkPositionIndexes_11 (by decide) (fun c_3 => ?_) (fun c_3 => absurd (nI_le hbn (by omega)) c_3)
  exact W.vret hx hb hr (fun t ht hW => ⟨rfl, trivial, ht⟩) (fun q hq => by cases hq) dX4_checkPositionIndexes_24
set_option maxHeartbeats 4000000 in
set_option maxRecDepth 100000 in
/-- the law's mixed -/
theorem met_mx (l : Launch) (D : va_G) (x : Int32) : Met l yX0_mixed (ws_ yX0_mixed cX0_mixed 2 (some .int)) ({ frames := 0, cells := 0, slots := 0, locals := 0 }) (va_Pc [.int x] (hk_C D [] [])) (vp_Si (fun r => r = m_k x)) 0 0 (fun _ => False) := by
  refine Met.ofW (cc := cX0_mixed) (maxL := 2) (ret := (some .int)) (by decide +kernel) rfl ?_
  intro p e s m args below meth c s₁ B hml hv
  obtain ⟨rfl, hP, hK, hN⟩ := hv
  have hx := B.exec
  have hb := B.bytes
  have hr := B.returns
  have hts := atoms_spec (ws := (ws_ yX0_mixed cX0_mixed 2 (some .int))) B.pre
  have hts : ∀ w ∈ lw_all, w.before _ s = true := fun w h => hts w (List.mem_cons_of_mem _ h)
  have hown : s.vm.findClass RX0 = some m.cls := findClass_of_methodNamed B.named
  have hlocks := B.notSynchronized
  have hP : va_P D vwCl [] s.heap := hP
  have hl := lv_entry ([.int x]) (n := 2) (Nat.le_of_ble_eq_true rfl)
  rw [lg_entry_eq]
  generalize (lg_sl ([.int x]) ++ List.replicate (2 - (lg_sl ([.int x])).length) Slot.unset).toArray = ls at hl ⊢
  have hl : lv_has ls 2 [(0, .int x)] := hl
  refine lv_iload_n hx hb dX0_mixed_0 rfl (lv_at hl 0 rfl) ?_
  refine lv_ldc hx hb hown (hts _ q391) dX0_mixed_1 ?_
  refine lv_imul hx hb dX0_mixed_3 ?_
  refine lv_istore_n (lv' := [(1, .int (x * (-862048943))), (0, .int x)]) hx hb dX0_mixed_4 rfl hl (by decide) rfl (fun ls hl => ?_)
  refine lv_iload_n hx hb dX0_mixed_5 rfl (lv_at hl 0 rfl) ?_
  refine lv_bipush (v := 15) hx hb dX0_mixed_6 (by decide) ?_
  refine lv_ishl hx hb dX0_mixed_8 ?_
  refine lv_iload_n hx hb dX0_mixed_9 rfl (lv_at hl 0 rfl) ?_
  refine lv_bipush (v := 17) hx hb dX0_mixed_10 (by decide) ?_
  refine lv_iushr (v := m_us (x * (-862048943)) 17) hx hb dX0_mixed_12 rfl ?_
  refine lv_ior hx hb dX0_mixed_13 ?_
  refine lv_ldc hx hb hown (hts _ q392) dX0_mixed_14 ?_
  refine lv_imul hx hb dX0_mixed_16 ?_
  exact W.iret (v := (((x * (-862048943)) <<< (15 &&& 31)) ||| (m_us (x * (-862048943)) 17)) * 461845907) hx hb hr (fun t ht hW => ⟨_, rfl, m_k_law x, ht⟩) (fun q hq => by cases hq) dX0_mixed_17
set_option maxHeartbeats 4000000 in
set_option maxRecDepth 100000 in
/-- the law's mod -/
theorem met_md (l : Launch) (D : va_G) (x : Int32) (n : Nat) (h0 : 0 < n) (hn : n < 2 ^ 30) : Met l yX0_mod (ws_ yX0_mod cX0_mod 2 (some .int)) ({ frames := 0, cells := 0, slots := 0, locals := 0 }) (va_Pc [.int x, .int (nI n)] (hk_C D [] [])) (vp_Si (fun r => r = nI (mdN x n))) 0 0 (fun _ => False) := by
  refine Met.ofW (cc := cX0_mod) (maxL := 2) (ret := (some .int)) (by decide +kernel) rfl ?_
  intro p e s m args below meth c s₁ B hml hv
  obtain ⟨rfl, hP, hK, hN⟩ := hv
  have hx := B.exec
  have hb := B.bytes
  have hr := B.returns
  have hts := atoms_spec (ws := (ws_ yX0_mod cX0_mod 2 (some .int))) B.pre
  have hts : ∀ w ∈ lw_all, w.before _ s = true := fun w h => hts w (List.mem_cons_of_mem _ h)
  have hown : s.vm.findClass RX0 = some m.cls := findClass_of_methodNamed B.named
  have hlocks := B.notSynchronized
  have hP : va_P D vwCl [] s.heap := hP
  have hl := lv_entry ([.int x, .int (nI n)]) (n := 2) (Nat.le_of_ble_eq_true rfl)
  rw [lg_entry_eq]
  generalize (lg_sl ([.int x, .int (nI n)]) ++ List.replicate (2 - (lg_sl ([.int x, .int (nI n)])).length) Slot.unset).toArray = ls at hl ⊢
  have hl : lv_has ls 2 [(0, .int x), (1, .int (nI n))] := hl
  refine lv_iload_n hx hb dX0_mod_0 rfl (lv_at hl 0 rfl) ?_
  refine lv_ldc hx hb hown (hts _ q384) dX0_mod_1 ?_
  refine lv_iand hx hb dX0_mod_3 ?_
  refine lv_iload_n hx hb dX0_mod_4 rfl (lv_at hl 1 rfl) ?_
  refine lv_irem hx hb dX0_mod_5 (nI_ne0 h0 (by omega)) ?_
  refine hk_ti (y := nI (mdN x n)) (mdN_rem x h0 (by omega)) ?_
  exact W.iret (v := nI (mdN x n)) hx hb hr (fun t ht hW => ⟨_, rfl, rfl, ht⟩) (fun q hq => by cases hq) dX0_mod_6
set_option maxHeartbeats 4000000 in
set_option maxRecDepth 100000 in
/-- the law's wide -/
theorem met_wd (l : Launch) (D : va_G) (hi lo : Int32) : Met l yX0_wide (ws_ yX0_wide cX0_wide 2 (some .long)) ({ frames := 0, cells := 0, slots := 0, locals := 0 }) (va_Pc [.int hi, .int lo] (hk_C D [] [])) (vp_Sl (fun r => r = m_wd hi lo)) 0 0 (fun _ => False) := by
  refine Met.ofW (cc := cX0_wide) (maxL := 2) (ret := (some .long)) (by decide +kernel) rfl ?_
  intro p e s m args below meth c s₁ B hml hv
  obtain ⟨rfl, hP, hK, hN⟩ := hv
  have hx := B.exec
  have hb := B.bytes
  have hr := B.returns
  have hts := atoms_spec (ws := (ws_ yX0_wide cX0_wide 2 (some .long))) B.pre
  have hts : ∀ w ∈ lw_all, w.before _ s = true := fun w h => hts w (List.mem_cons_of_mem _ h)
  have hown : s.vm.findClass RX0 = some m.cls := findClass_of_methodNamed B.named
  have hlocks := B.notSynchronized
  have hP : va_P D vwCl [] s.heap := hP
  have hl := lv_entry ([.int hi, .int lo]) (n := 2) (Nat.le_of_ble_eq_true rfl)
  rw [lg_entry_eq]
  generalize (lg_sl ([.int hi, .int lo]) ++ List.replicate (2 - (lg_sl ([.int hi, .int lo])).length) Slot.unset).toArray = ls at hl ⊢
  have hl : lv_has ls 2 [(0, .int hi), (1, .int lo)] := hl
  refine lv_iload_n hx hb dX0_wide_0 rfl (lv_at hl 0 rfl) ?_
  refine lv_i2l (v := (hi : Int32).toInt64) hx hb dX0_wide_1 rfl ?_
  refine lv_bipush (v := 32) hx hb dX0_wide_2 (by decide) ?_
  refine lv_lshl (v := ((hi : Int32).toInt64) <<< ((32 : Int32).toInt64 &&& 63)) hx hb dX0_wide_4 rfl ?_
  refine lv_iload_n hx hb dX0_wide_5 rfl (lv_at hl 1 rfl) ?_
  refine lv_i2l (v := (lo : Int32).toInt64) hx hb dX0_wide_6 rfl ?_
  refine lv_ldc2 hx hb hown (hts _ q413) dX0_wide_7 ?_
  refine lv_land hx hb dX0_wide_10 ?_
  refine lv_lor hx hb dX0_wide_11 ?_
  exact W.lret (v := (((hi : Int32).toInt64) <<< ((32 : Int32).toInt64 &&& 63)) ||| (((lo : Int32).toInt64) &&& 4294967295)) hx hb hr (fun t ht hW => ⟨_, rfl, rfl, ht⟩) (fun q hq => by cases hq) dX0_wide_12
set_option maxHeartbeats 4000000 in
set_option maxRecDepth 100000 in
/-- of -/
theorem met_of (l : Launch) (D : va_G) (hi lo : Int32) : Met l yX1_of (ws_ yX1_of cX1_of 2 (some .long)) ({ frames := 0, cells := 0, slots := 0, locals := 0 }) (va_Pc [.int hi, .int lo] (hk_C D [] [])) (vp_Sl (fun r => r = m_wd hi lo)) 0 0 (fun _ => False) := by
  refine Met.ofW (cc := cX1_of) (maxL := 2) (ret := (some .long)) (by decide +kernel) rfl ?_
  intro p e s m args below meth c s₁ B hml hv
  obtain ⟨rfl, hP, hK, hN⟩ := hv
  have hx := B.exec
  have hb := B.bytes
  have hr := B.returns
  have hts := atoms_spec (ws := (ws_ yX1_of cX1_of 2 (some .long))) B.pre
  have hts : ∀ w ∈ lw_all, w.before _ s = true := fun w h => hts w (List.mem_cons_of_mem _ h)
  have hown : s.vm.findClass RX1 = some m.cls := findClass_of_methodNamed B.named
  have hlocks := B.notSynchronized
  have hP : va_P D vwCl [] s.heap := hP
  have hl := lv_entry ([.int hi, .int lo]) (n := 2) (Nat.le_of_ble_eq_true rfl)
  rw [lg_entry_eq]
  generalize (lg_sl ([.int hi, .int lo]) ++ List.replicate (2 - (lg_sl ([.int hi, .int lo])).length) Slot.unset).toArray = ls at hl ⊢
  have hl : lv_has ls 2 [(0, .int hi), (1, .int lo)] := hl
  refine lv_iload_n hx hb dX1_of_0 rfl (lv_at hl 0 rfl) ?_
  refine lv_i2l (v := (hi : Int32).toInt64) hx hb dX1_of_1 rfl ?_
  refine lv_bipush (v := 32) hx hb dX1_of_2 (by decide) ?_
  refine lv_lshl (v := ((hi : Int32).toInt64) <<< ((32 : Int32).toInt64 &&& 63)) hx hb dX1_of_4 rfl ?_
  refine lv_iload_n hx hb dX1_of_5 rfl (lv_at hl 1 rfl) ?_
  refine lv_i2l (v := (lo : Int32).toInt64) hx hb dX1_of_6 rfl ?_
  refine lv_ldc2 hx hb hown (hts _ q256) dX1_of_7 ?_
  refine lv_land hx hb dX1_of_10 ?_
  refine lv_lor hx hb dX1_of_11 ?_
  exact W.lret (v := (((hi : Int32).toInt64) <<< ((32 : Int32).toInt64 &&& 63)) ||| (((lo : Int32).toInt64) &&& 4294967295)) hx hb hr (fun t ht hW => ⟨_, rfl, rfl, ht⟩) (fun q hq => by cases hq) dX1_of_12
set_option maxHeartbeats 4000000 in
set_option maxRecDepth 100000 in
/-- from -/
theorem met_fr (l : Launch) (D : va_G) (h0 n : Nat) (v0 v2 : Value) (f3 : Int32) (hn : n < 2 ^ 20) (x : Int32) : Met l yX1_from (ws_ yX1_from cX1_from 2 (some .int)) ({ frames := 0, cells := 0, slots := 0, locals := 0 }) (va_Pc [.ref h0, .int x] (hk_C D [(h0, .inr (1, [v0, .int (nI n), v2, .int f3]))] [])) (vp_Si (fun r => r = nI (mdN x (n + 1)))) 0 0 (fun _ => False) := by
  refine Met.ofW (cc := cX1_from) (maxL := 2) (ret := (some .int)) (by decide +kernel) rfl ?_
  intro p e s m args below meth c s₁ B hml hv
  obtain ⟨rfl, hP, hK, hN⟩ := hv
  have hx := B.exec
  have hb := B.bytes
  have hr := B.returns
  have hts := atoms_spec (ws := (ws_ yX1_from cX1_from 2 (some .int))) B.pre
  have hts : ∀ w ∈ lw_all, w.before _ s = true := fun w h => hts w (List.mem_cons_of_mem _ h)
  have hown : s.vm.findClass RX1 = some m.cls := findClass_of_methodNamed B.named
  have hlocks := B.notSynchronized
  have hP : va_P D vwCl [(h0, .inr (1, [v0, .int (nI n), v2, .int f3]))] s.heap := hP
  have hl := lv_entry ([.ref h0, .int x]) (n := 2) (Nat.le_of_ble_eq_true rfl)
  rw [lg_entry_eq]
  generalize (lg_sl ([.ref h0, .int x]) ++ List.replicate (2 - (lg_sl ([.ref h0, .int x])).length) Slot.unset).toArray = ls at hl ⊢
  have hl : lv_has ls 2 [(0, .ref h0), (1, .int x)] := hl
  refine lv_iload_n hx hb dX1_from_0 rfl (lv_at hl 1 rfl) ?_
  refine lv_ldc hx hb hown (hts _ q61) dX1_from_1 ?_
  refine lv_iand hx hb dX1_from_3 ?_
  refine lv_aload_n hx hb dX1_from_4 rfl (lv_at hl 0 rfl) ?_
  refine va_get (D := D) (ci := 1) (v := .int (nI n)) (C := RX1) (T := TX1) (N := 4) hx hb hts in_X1 hown hK hP 0 rfl rfl 1 (by decide) (hts _ q33) (fun _ h9 => h9) rfl dX1_from_5 ?_
  refine lv_iconst (v := 1) hx hb dX1_from_8 (by decide) ?_
  refine lv_iadd hx hb dX1_from_9 ?_
  refine hk_ti (y := nI (n + 1)) (nI_1 n) ?_
  refine lv_irem hx hb dX1_from_10 (nI_ne0 (Nat.succ_pos n) (by omega)) ?_
  refine hk_ti (y := nI (mdN x (n + 1))) (mdN_rem x (Nat.succ_pos n) (by omega)) ?_
  exact W.iret (v := nI (mdN x (n + 1))) hx hb hr (fun t ht hW => ⟨_, rfl, rfl, ht⟩) (fun q hq => by cases hq) dX1_from_11
set_option maxHeartbeats 4000000 in
set_option maxRecDepth 100000 in
/-- count -/
theorem met_ct (l : Launch) (D : va_G) (h0 n : Nat) (v0 v2 : Value) (f3 : Int32) (hn : n < 2 ^ 20) (f : Nat) (hf : f ≤ n) (x : Int32) : Met l yX1_count (ws_ yX1_count cX1_count 3 (some .int)) ({ frames := 0, cells := 0, slots := 0, locals := 0 }) (va_Pc [.ref h0, .int (nI f), .int x] (hk_C D [(h0, .inr (1, [v0, .int (nI n), v2, .int f3]))] [])) (vp_Si (fun r => r = nI (mdN x (n - f + 1)))) 0 0 (fun _ => False) := by
  refine Met.ofW (cc := cX1_count) (maxL := 3) (ret := (some .int)) (by decide +kernel) rfl ?_
  intro p e s m args below meth c s₁ B hml hv
  obtain ⟨rfl, hP, hK, hN⟩ := hv
  have hx := B.exec
  have hb := B.bytes
  have hr := B.returns
  have hts := atoms_spec (ws := (ws_ yX1_count cX1_count 3 (some .int))) B.pre
  have hts : ∀ w ∈ lw_all, w.before _ s = true := fun w h => hts w (List.mem_cons_of_mem _ h)
  have hown : s.vm.findClass RX1 = some m.cls := findClass_of_methodNamed B.named
  have hlocks := B.notSynchronized
  have hP : va_P D vwCl [(h0, .inr (1, [v0, .int (nI n), v2, .int f3]))] s.heap := hP
  have hl := lv_entry ([.ref h0, .int (nI f), .int x]) (n := 3) (Nat.le_of_ble_eq_true rfl)
  rw [lg_entry_eq]
  generalize (lg_sl ([.ref h0, .int (nI f), .int x]) ++ List.replicate (3 - (lg_sl ([.ref h0, .int (nI f), .int x])).length) Slot.unset).toArray = ls at hl ⊢
  have hl : lv_has ls 3 [(0, .ref h0), (1, .int (nI f)), (2, .int x)] := hl
  refine lv_iload_n hx hb dX1_count_0 rfl (lv_at hl 2 rfl) ?_
  refine lv_ldc hx hb hown (hts _ q61) dX1_count_1 ?_
  refine lv_iand hx hb dX1_count_3 ?_
  refine lv_aload_n hx hb dX1_count_4 rfl (lv_at hl 0 rfl) ?_
  refine va_get (D := D) (ci := 1) (v := .int (nI n)) (C := RX1) (T := TX1) (N := 4) hx hb hts in_X1 hown hK hP 0 rfl rfl 1 (by decide) (hts _ q33) (fun _ h9 => h9) rfl dX1_count_5 ?_
  refine lv_iload_n hx hb dX1_count_8 rfl (lv_at hl 1 rfl) ?_
  refine lv_isub hx hb dX1_count_9 ?_
  refine lv_iconst (v := 1) hx hb dX1_count_10 (by decide) ?_
  refine lv_iadd hx hb dX1_count_11 ?_
  refine hk_ti (y := nI (n - f + 1)) (by rw [pk_sub hf, nI_1]) ?_
  refine lv_irem hx hb dX1_count_12 (nI_ne0 (Nat.succ_pos _) (by omega)) ?_
  refine hk_ti (y := nI (mdN x (n - f + 1))) (mdN_rem x (Nat.succ_pos _) (by omega)) ?_
  exact W.iret (v := nI (mdN x (n - f + 1))) hx hb hr (fun t ht hW => ⟨_, rfl, rfl, ht⟩) (fun q hq => by cases hq) dX1_count_13
set_option maxHeartbeats 4000000 in
set_option maxRecDepth 100000 in
/-- asInt -/
theorem met_ai (l : Launch) (D : va_G) (h0 : Nat) (v : Int32) : Met l yX7_asInt (ws_ yX7_asInt cX7_asInt 1 (some .int)) ({ frames := 0, cells := 0, slots := 0, locals := 0 }) (va_Pc [.ref h0] (hk_C D [(h0, .inr (3, [.int v]))] [])) (vp_Si (fun r => r = v)) 0 0 (fun _ => False) := by
  refine Met.ofW (cc := cX7_asInt) (maxL := 1) (ret := (some .int)) (by decide +kernel) rfl ?_
  intro p e s m args below meth c s₁ B hml hv
  obtain ⟨rfl, hP, hK, hN⟩ := hv
  have hx := B.exec
  have hb := B.bytes
  have hr := B.returns
  have hts := atoms_spec (ws := (ws_ yX7_asInt cX7_asInt 1 (some .int))) B.pre
  have hts : ∀ w ∈ lw_all, w.before _ s = true := fun w h => hts w (List.mem_cons_of_mem _ h)
  have hown : s.vm.findClass RX7 = some m.cls := findClass_of_methodNamed B.named
  have hlocks := B.notSynchronized
  have hP : va_P D vwCl [(h0, .inr (3, [.int v]))] s.heap := hP
  have hl := lv_entry ([.ref h0]) (n := 1) (Nat.le_of_ble_eq_true rfl)
  rw [lg_entry_eq]
  generalize (lg_sl ([.ref h0]) ++ List.replicate (1 - (lg_sl ([.ref h0])).length) Slot.unset).toArray = ls at hl ⊢
  have hl : lv_has ls 1 [(0, .ref h0)] := hl
  refine lv_aload_n hx hb dX7_asInt_0 rfl (lv_at hl 0 rfl) ?_
  refine va_get (D := D) (ci := 3) (v := .int v) (C := RX7) (T := TX7) (N := 1) hx hb hts in_X7 hown hK hP 0 rfl rfl 0 (by decide) (hts _ q320) (fun _ h9 => h9) rfl dX7_asInt_1 ?_
  exact W.iret (v := v) hx hb hr (fun t ht hW => ⟨_, rfl, rfl, ht⟩) (fun q hq => by cases hq) dX7_asInt_4
end
section
/-! CONSTRUCTORS AND THE MAKERS OF A HASH -/
set_option maxHeartbeats 4000000 in
set_option maxRecDepth 100000 in
/-- AbstractHashFunction() -/
theorem met_ia (l : Launch) (D : va_G) (h0 : Nat) : Met l yX2_init (ws_ yX2_init cX2_init 1 none) ({ frames := 1, cells := 0, slots := 0, locals := 12 }) (va_Pc [.ref h0] (hk_C D [] [])) (va_Sv (fun _ => True)) 0 0 (fun _ => False) := by
  refine Met.ofW (cc := cX2_init) (maxL := 1) (ret := none) (by decide +kernel) rfl ?_
  intro p e s m args below meth c s₁ B hml hv
  obtain ⟨rfl, hP, hK, hN⟩ := hv
  have hx := B.exec
  have hb := B.bytes
  have hr := B.returns
  have hts := atoms_spec (ws := (ws_ yX2_init cX2_init 1 none)) B.pre
  have hts : ∀ w ∈ lw_all, w.before _ s = true := fun w h => hts w (List.mem_cons_of_mem _ h)
  have hown : s.vm.findClass RX2 = some m.cls := findClass_of_methodNamed B.named
  have hlocks := B.notSynchronized
  have hin : meth.name = "<init>" := (name_of_methodNamed B.named B.method).1
  have hP : va_P D vwCl [] s.heap := hP
  have hl := lv_entry ([.ref h0]) (n := 1) (Nat.le_of_ble_eq_true rfl)
  rw [lg_entry_eq]
  generalize (lg_sl ([.ref h0]) ++ List.replicate (1 - (lg_sl ([.ref h0])).length) Slot.unset).toArray = ls at hl ⊢
  have hl : lv_has ls 1 [(0, .ref h0)] := hl
  refine lv_aload_n hx hb dX2_init_0 rfl (lv_at hl 0 rfl) ?_
  refine W.objInit hx hb hown (hts _ q74) (hts _ q30) (hts _ q31) rfl (by rw [hml]; exact hl.1) rfl dX2_init_1 (Nat.le_of_ble_eq_true rfl) (Nat.le_of_ble_eq_true rfl) ?_
  refine W.eq (g2 := F0 m 4 ls []) rfl ?_
  exact W.vret hx hb hr (fun t ht hW => ⟨rfl, trivial, ht⟩) (fun q hq => by cases hq) dX2_init_4
set_option maxHeartbeats 4000000 in
set_option maxRecDepth 100000 in
/-- AbstractHasher() -/
theorem met_ih (l : Launch) (D : va_G) (h0 : Nat) : Met l yX8_init (ws_ yX8_init cX8_init 1 none) ({ frames := 1, cells := 0, slots := 0, locals := 12 }) (va_Pc [.ref h0] (hk_C D [] [])) (va_Sv (fun _ => True)) 0 0 (fun _ => False) := by
  refine Met.ofW (cc := cX8_init) (maxL := 1) (ret := none) (by decide +kernel) rfl ?_
  intro p e s m args below meth c s₁ B hml hv
  obtain ⟨rfl, hP, hK, hN⟩ := hv
  have hx := B.exec
  have hb := B.bytes
  have hr := B.returns
  have hts := atoms_spec (ws := (ws_ yX8_init cX8_init 1 none)) B.pre
  have hts : ∀ w ∈ lw_all, w.before _ s = true := fun w h => hts w (List.mem_cons_of_mem _ h)
  have hown : s.vm.findClass RX8 = some m.cls := findClass_of_methodNamed B.named
  have hlocks := B.notSynchronized
  have hin : meth.name = "<init>" := (name_of_methodNamed B.named B.method).1
  have hP : va_P D vwCl [] s.heap := hP
  have hl := lv_entry ([.ref h0]) (n := 1) (Nat.le_of_ble_eq_true rfl)
  rw [lg_entry_eq]
  generalize (lg_sl ([.ref h0]) ++ List.replicate (1 - (lg_sl ([.ref h0])).length) Slot.unset).toArray = ls at hl ⊢
  have hl : lv_has ls 1 [(0, .ref h0)] := hl
  refine lv_aload_n hx hb dX8_init_0 rfl (lv_at hl 0 rfl) ?_
  refine W.objInit hx hb hown (hts _ q94) (hts _ q30) (hts _ q31) rfl (by rw [hml]; exact hl.1) rfl dX8_init_1 (Nat.le_of_ble_eq_true rfl) (Nat.le_of_ble_eq_true rfl) ?_
  refine W.eq (g2 := F0 m 4 ls []) rfl ?_
  exact W.vret hx hb hr (fun t ht hW => ⟨rfl, trivial, ht⟩) (fun q hq => by cases hq) dX8_init_4
set_option maxHeartbeats 4000000 in
set_option maxRecDepth 100000 in
/-- HashCode() -/
theorem met_ic (l : Launch) (D : va_G) (h0 : Nat) : Met l yX6_init (ws_ yX6_init cX6_init 1 none) ({ frames := 1, cells := 0, slots := 0, locals := 12 }) (va_Pc [.ref h0] (hk_C D [] [])) (va_Sv (fun _ => True)) 0 0 (fun _ => False) := by
  refine Met.ofW (cc := cX6_init) (maxL := 1) (ret := none) (by decide +kernel) rfl ?_
  intro p e s m args below meth c s₁ B hml hv
  obtain ⟨rfl, hP, hK, hN⟩ := hv
  have hx := B.exec
  have hb := B.bytes
  have hr := B.returns
  have hts := atoms_spec (ws := (ws_ yX6_init cX6_init 1 none)) B.pre
  have hts : ∀ w ∈ lw_all, w.before _ s = true := fun w h => hts w (List.mem_cons_of_mem _ h)
  have hown : s.vm.findClass RX6 = some m.cls := findClass_of_methodNamed B.named
  have hlocks := B.notSynchronized
  have hin : meth.name = "<init>" := (name_of_methodNamed B.named B.method).1
  have hP : va_P D vwCl [] s.heap := hP
  have hl := lv_entry ([.ref h0]) (n := 1) (Nat.le_of_ble_eq_true rfl)
  rw [lg_entry_eq]
  generalize (lg_sl ([.ref h0]) ++ List.replicate (1 - (lg_sl ([.ref h0])).length) Slot.unset).toArray = ls at hl ⊢
  have hl : lv_has ls 1 [(0, .ref h0)] := hl
  refine lv_aload_n hx hb dX6_init_0 rfl (lv_at hl 0 rfl) ?_
  refine W.objInit hx hb hown (hts _ q319) (hts _ q30) (hts _ q31) rfl (by rw [hml]; exact hl.1) rfl dX6_init_1 (Nat.le_of_ble_eq_true rfl) (Nat.le_of_ble_eq_true rfl) ?_
  refine W.eq (g2 := F0 m 4 ls []) rfl ?_
  exact W.vret hx hb hr (fun t ht hW => ⟨rfl, trivial, ht⟩) (fun q hq => by cases hq) dX6_init_4
set_option maxHeartbeats 4000000 in
set_option maxRecDepth 100000 in
/-- IntHashCode(x) -/
theorem met_ii (l : Launch) (D : va_G) (sz : Nat) (h0 : Nat) (v x : Int32) : Met l yX7_init (ws_ yX7_init cX7_init 2 none) ({ frames := 2, cells := 0, slots := 0, locals := 32 }) (va_Pc [.ref h0, .int x] (hk_B D [(h0, .inr (3, [.int v]))] [] sz)) (va_Qv (S := Unit) (fun _ => True) (fun u => hk_E D ([(h0, .inr (3, [.int x]))]) ([]) (va_A [(h0, .inr (3, [.int v]))] sz)) (va_A [(h0, .inr (3, [.int v]))] sz)) 0 0 (va_A [(h0, .inr (3, [.int v]))] sz) := by
  refine Met.ofW (cc := cX7_init) (maxL := 2) (ret := none) (by decide +kernel) rfl ?_
  intro p e s m args below meth c s₁ B hml hv
  obtain ⟨rfl, hsz, hP, hK, hD0, hN⟩ := hv
  have hx := B.exec
  have hb := B.bytes
  have hr := B.returns
  have hts := atoms_spec (ws := (ws_ yX7_init cX7_init 2 none)) B.pre
  have hts : ∀ w ∈ lw_all, w.before _ s = true := fun w h => hts w (List.mem_cons_of_mem _ h)
  have hown : s.vm.findClass RX7 = some m.cls := findClass_of_methodNamed B.named
  have hlocks := B.notSynchronized
  have hin : meth.name = "<init>" := (name_of_methodNamed B.named B.method).1
  subst hsz
  have hD := hD0.self (sz := s.heap.size)
  generalize hAe : va_A [(h0, .inr (3, [.int v]))] s.heap.size = A at hD ⊢
  have hA : ∀ q : Nat, s.heap.size ≤ q → A q := fun q h => by rw [← hAe]; exact Or.inr h
  have hS : va_S A s.heap s.heap [] := va_S.rf
  have hP : va_P D vwCl [(h0, .inr (3, [.int v]))] s.heap := hP
  have hl := lv_entry ([.ref h0, .int x]) (n := 2) (Nat.le_of_ble_eq_true rfl)
  rw [lg_entry_eq]
  generalize (lg_sl ([.ref h0, .int x]) ++ List.replicate (2 - (lg_sl ([.ref h0, .int x])).length) Slot.unset).toArray = ls at hl ⊢
  have hl : lv_has ls 2 [(0, .ref h0), (1, .int x)] := hl
  refine lv_aload_n hx hb dX7_init_0 rfl (lv_at hl 0 rfl) ?_
  refine va_csv (va_Run.run (va_runI (As := []) (rest := []) ⟨hx, hb, hml, hown, hts⟩ (met_ic l D h0) (cwI 0 hts (lw_meth q318) rfl rfl rfl (hts _ q19) (hts _ q316) (hts _ q317) rfl (by decide +kernel) ⟨Nat.le_of_ble_eq_true rfl, Nat.le_of_ble_eq_true rfl⟩) (hk_CS (hP.sub (ws' := []) [] rfl) (hK.sub (tys' := []) [] rfl) hN) rfl rfl hl.1 rfl (lv_room (Nat.le_of_ble_eq_true rfl)) dX7_init_1 ⟨Nat.le_of_ble_eq_true rfl, Nat.le_of_ble_eq_true rfl⟩)) (fun hr_1 => ?_)
  refine lv_aload_n hx hb dX7_init_4 rfl (lv_at hl 0 rfl) ?_
  refine lv_iload_n hx hb dX7_init_5 rfl (lv_at hl 1 rfl) ?_
  refine va_putF (D := D) (ci := 3) (v := .int x) (ty := .int) (C := RX7) (T := TX7) (N := 1) hx hb hts in_X7 tyX7 tyX7_ok nmX7 hown hK hP hD hS 0 rfl rfl 0 (by decide) (hts _ q320) (fun _ h9 => h9) rfl hin rfl (by decide +kernel) rfl rfl (Nat.le_of_ble_eq_true rfl) dX7_init_6 (fun H locs hP hD hS => ?_)
  have hP : va_P D vwCl [(h0, .inr (3, [.int x]))] H := hP
  have hD : va_D A [(h0, .inr (3, [.int x]))] := hD
  have hP9 := hP.sub (ws' := [(h0, .inr (3, [.int x]))]) [0] rfl
  have hD9 := hD.sub (ws' := [(h0, .inr (3, [.int x]))]) [0] (by decide) rfl
  have hK9 := hK.sub (tys' := []) [] rfl
  exact W.vret hx hb hr (fun t ht hW => ⟨⟨(), rfl, trivial, hk_at ht hW hP9 hK9 hD9⟩, hS.F ht⟩) hS.2.2 dX7_init_9
set_option maxHeartbeats 4000000 in
set_option maxRecDepth 100000 in
/-- HashCode.fromInt -/
theorem met_fi (l : Launch) (D : va_G) (sz : Nat) (x : Int32) : Met l yX6_fromInt (ws_ yX6_fromInt cX6_fromInt 1 (some (.object "HashCode"))) ({ frames := 3, cells := 1, slots := 1, locals := 53 }) (va_Pc [.int x] (hk_B D [] [] sz)) (va_Qr (S := Unit) (fun _ => True) (fun u q => hk_E D ([(q, .inr (3, [.int x]))]) ([]) (va_A [] sz)) (va_A [] sz)) 1 1 (va_A [] sz) := by
  refine Met.ofW (cc := cX6_fromInt) (maxL := 1) (ret := (some (.object "HashCode"))) (by decide +kernel) rfl ?_
  intro p e s m args below meth c s₁ B hml hv
  obtain ⟨rfl, hsz, hP, hK, hD0, hN⟩ := hv
  have hx := B.exec
  have hb := B.bytes
  have hr := B.returns
  have hts := atoms_spec (ws := (ws_ yX6_fromInt cX6_fromInt 1 (some (.object "HashCode")))) B.pre
  have hts : ∀ w ∈ lw_all, w.before _ s = true := fun w h => hts w (List.mem_cons_of_mem _ h)
  have hown : s.vm.findClass RX6 = some m.cls := findClass_of_methodNamed B.named
  have hlocks := B.notSynchronized
  subst hsz
  have hD := hD0.self (sz := s.heap.size)
  generalize hAe : va_A [] s.heap.size = A at hD ⊢
  have hA : ∀ q : Nat, s.heap.size ≤ q → A q := fun q h => by rw [← hAe]; exact Or.inr h
  have hS : va_S A s.heap s.heap [] := va_S.rf
  have hP : va_P D vwCl [] s.heap := hP
  have hl := lv_entry ([.int x]) (n := 1) (Nat.le_of_ble_eq_true rfl)
  rw [lg_entry_eq]
  generalize (lg_sl ([.int x]) ++ List.replicate (1 - (lg_sl ([.int x])).length) Slot.unset).toArray = ls at hl ⊢
  have hl : lv_has ls 1 [(0, .int x)] := hl
  refine va_new (ci := 3) (fs := [.int 0]) (C := RX7) (T := TX7) (N := 1) hx hb hts in_X7 tyX7 tyX7_ok hown (hts _ q311) (hts _ q312) (hts _ q20) hK hP hD hS hA rfl (fun j hj => by rcases (show j = 0 by omega) with rfl <;> rfl) (Nat.le_of_ble_eq_true rfl) (Nat.le_of_ble_eq_true rfl) dX6_fromInt_0 (fun q0 H hP hD hS => ?_)
  have hP : va_P D vwCl [(q0, .inr (3, [.int 0]))] H := hP
  have hD : va_D A [(q0, .inr (3, [.int 0]))] := hD
  refine lv_dup hx hb dX6_fromInt_3 rfl ?_
  refine lv_iload_n hx hb dX6_fromInt_4 rfl (lv_at hl 0 rfl) ?_
  refine hk_cv (wr := []) (va_runI (As := [.int x]) (rest := [.ref q0]) ⟨hx, hb, hml, hown, hts⟩ (met_ii l D H.size q0 0 x) (cwI 1 hts (lw_meth q315) rfl rfl rfl (hts _ q20) (hts _ q313) (hts _ q314) rfl (by decide +kernel) ⟨Nat.le_of_ble_eq_true rfl, Nat.le_of_ble_eq_true rfl⟩) (hk_BS (hP.sub (ws' := [(q0, .inr (3, [.int 0]))]) [0] rfl) (hK.sub (tys' := []) [] rfl) hN (hD.sub (ws' := [(q0, .inr (3, [.int 0]))]) [0] (by decide) rfl)) rfl rfl hl.1 rfl (lv_room (Nat.le_of_ble_eq_true rfl)) dX6_fromInt_5 ⟨Nat.le_of_ble_eq_true rfl, Nat.le_of_ble_eq_true rfl⟩) hP hD hK hS hA [0] [] rfl rfl (by decide) (by decide) (fun u_3 H locs h_2 hP hD hK hS => ?_)
  have hP : va_P D vwCl [(q0, .inr (3, [.int x]))] H := hP
  have hD : va_D A [(q0, .inr (3, [.int x]))] := hD
  have hK : va_K D vwCl [] s := hK
  have hP9 := hP.sub (ws' := [(q0, .inr (3, [.int x]))]) [0] rfl
  have hD9 := hD.sub (ws' := [(q0, .inr (3, [.int x]))]) [0] (by decide) rfl
  have hK9 := hK.sub (tys' := []) [] rfl
  refine W.widen (k := 1) (n := 1) (by omega) (by omega) ?_
  exact W.aret (v := .ref q0) hx hb hr (Or.inl ⟨_, rfl⟩) (Or.inr ⟨_, rfl⟩) (fun t ht hW => ⟨⟨(), _, rfl, trivial, hk_at ht hW hP9 hK9 hD9⟩, hS.F ht⟩) hS.2.2 dX6_fromInt_8
set_option maxHeartbeats 4000000 in
set_option maxRecDepth 100000 in
/-- fmix -/
theorem met_fm (l : Launch) (D : va_G) (sz : Nat) (h n : Int32) : Met l yX3_fmix (ws_ yX3_fmix cX3_fmix 2 (some (.object "HashCode"))) ({ frames := 4, cells := 1, slots := 1, locals := 73 }) (va_Pc [.int h, .int n] (hk_B D [] [] sz)) (va_Qr (S := Unit) (fun _ => True) (fun u q => hk_E D ([(q, .inr (3, [.int (m_f h n)]))]) ([]) (va_A [] sz)) (va_A [] sz)) 1 1 (va_A [] sz) := by
  refine Met.ofW (cc := cX3_fmix) (maxL := 2) (ret := (some (.object "HashCode"))) (by decide +kernel) rfl ?_
  intro p e s m args below meth c s₁ B hml hv
  obtain ⟨rfl, hsz, hP, hK, hD0, hN⟩ := hv
  have hx := B.exec
  have hb := B.bytes
  have hr := B.returns
  have hts := atoms_spec (ws := (ws_ yX3_fmix cX3_fmix 2 (some (.object "HashCode")))) B.pre
  have hts : ∀ w ∈ lw_all, w.before _ s = true := fun w h => hts w (List.mem_cons_of_mem _ h)
  have hown : s.vm.findClass RX3 = some m.cls := findClass_of_methodNamed B.named
  have hlocks := B.notSynchronized
  subst hsz
  have hD := hD0.self (sz := s.heap.size)
  generalize hAe : va_A [] s.heap.size = A at hD ⊢
  have hA : ∀ q : Nat, s.heap.size ≤ q → A q := fun q h => by rw [← hAe]; exact Or.inr h
  have hS : va_S A s.heap s.heap [] := va_S.rf
  have hP : va_P D vwCl [] s.heap := hP
  have hl := lv_entry ([.int h, .int n]) (n := 2) (Nat.le_of_ble_eq_true rfl)
  rw [lg_entry_eq]
  generalize (lg_sl ([.int h, .int n]) ++ List.replicate (2 - (lg_sl ([.int h, .int n])).length) Slot.unset).toArray = ls at hl ⊢
  have hl : lv_has ls 2 [(0, .int h), (1, .int n)] := hl
  refine lv_iload_n hx hb dX3_fmix_0 rfl (lv_at hl 0 rfl) ?_
  refine lv_iload_n hx hb dX3_fmix_1 rfl (lv_at hl 1 rfl) ?_
  refine lv_ixor hx hb dX3_fmix_2 ?_
  refine hk_ti (y := h ^^^ n) (rfl) ?_
  refine lv_istore_n (lv' := [(0, .int (h ^^^ n)), (1, .int n)]) hx hb dX3_fmix_3 rfl hl (by decide) rfl (fun ls hl => ?_)
  refine lv_iload_n hx hb dX3_fmix_4 rfl (lv_at hl 0 rfl) ?_
  refine lv_iload_n hx hb dX3_fmix_5 rfl (lv_at hl 0 rfl) ?_
  refine lv_bipush (v := 16) hx hb dX3_fmix_6 (by decide) ?_
  refine lv_iushr (v := m_us (h ^^^ n) 16) hx hb dX3_fmix_8 rfl ?_
  refine lv_ixor hx hb dX3_fmix_9 ?_
  refine lv_istore_n (lv' := [(0, .int ((h ^^^ n) ^^^ (m_us (h ^^^ n) 16))), (1, .int n)]) hx hb dX3_fmix_10 rfl hl (by decide) rfl (fun ls hl => ?_)
  refine lv_iload_n hx hb dX3_fmix_11 rfl (lv_at hl 0 rfl) ?_
  refine lv_ldc hx hb hown (hts _ q306) dX3_fmix_12 ?_
  refine lv_imul hx hb dX3_fmix_14 ?_
  refine hk_ti (y := m_f1 (h ^^^ n)) (rfl) ?_
  refine lv_istore_n (lv' := [(0, .int (m_f1 (h ^^^ n))), (1, .int n)]) hx hb dX3_fmix_15 rfl hl (by decide) rfl (fun ls hl => ?_)
  refine lv_iload_n hx hb dX3_fmix_16 rfl (lv_at hl 0 rfl) ?_
  refine lv_iload_n hx hb dX3_fmix_17 rfl (lv_at hl 0 rfl) ?_
  refine lv_bipush (v := 13) hx hb dX3_fmix_18 (by decide) ?_
  refine lv_iushr (v := m_us (m_f1 (h ^^^ n)) 13) hx hb dX3_fmix_20 rfl ?_
  refine lv_ixor hx hb dX3_fmix_21 ?_
  refine lv_istore_n (lv' := [(0, .int ((m_f1 (h ^^^ n)) ^^^ (m_us (m_f1 (h ^^^ n)) 13))), (1, .int n)]) hx hb dX3_fmix_22 rfl hl (by decide) rfl (fun ls hl => ?_)
  refine lv_iload_n hx hb dX3_fmix_23 rfl (lv_at hl 0 rfl) ?_
  refine lv_ldc hx hb hown (hts _ q307) dX3_fmix_24 ?_
  refine lv_imul hx hb dX3_fmix_26 ?_
  refine hk_ti (y := m_f2 (m_f1 (h ^^^ n))) (rfl) ?_
  refine lv_istore_n (lv' := [(0, .int (m_f2 (m_f1 (h ^^^ n)))), (1, .int n)]) hx hb dX3_fmix_27 rfl hl (by decide) rfl (fun ls hl => ?_)
  refine lv_iload_n hx hb dX3_fmix_28 rfl (lv_at hl 0 rfl) ?_
  refine lv_iload_n hx hb dX3_fmix_29 rfl (lv_at hl 0 rfl) ?_
  refine lv_bipush (v := 16) hx hb dX3_fmix_30 (by decide) ?_
  refine lv_iushr (v := m_us (m_f2 (m_f1 (h ^^^ n))) 16) hx hb dX3_fmix_32 rfl ?_
  refine lv_ixor hx hb dX3_fmix_33 ?_
  refine hk_ti (y := m_f h n) (rfl) ?_
  refine lv_istore_n (lv' := [(0, .int (m_f h n)), (1, .int n)]) hx hb dX3_fmix_34 rfl hl (by decide) rfl (fun ls hl => ?_)
  refine lv_iload_n hx hb dX3_fmix_35 rfl (lv_at hl 0 rfl) ?_
  refine hk_cr (wr := []) (va_runS (As := [.int (m_f h n)]) (rest := []) ⟨hx, hb, hml, hown, hts⟩ (met_fi l D s.heap.size (m_f h n)) (va_cwS 1 hts (lw_S q308 q309 q19 q310) rfl rfl rfl (by decide +kernel) ⟨Nat.le_of_ble_eq_true rfl, Nat.le_of_ble_eq_true rfl⟩) (hk_BS (hP.sub (ws' := []) [] rfl) (hK.sub (tys' := []) [] rfl) hN (hD.sub (ws' := []) [] (by decide) rfl)) rfl rfl hl.1 rfl (lv_room (Nat.le_of_ble_eq_true rfl)) dX3_fmix_36 ⟨Nat.le_of_ble_eq_true rfl, Nat.le_of_ble_eq_true rfl⟩) hP hD hK hS hA [] [] rfl rfl (by decide) (by decide) (fun u_3 q0 H locs h_2 hP hD hK hS => ?_)
  have hP : va_P D vwCl [(q0, .inr (3, [.int (m_f h n)]))] H := hP
  have hD : va_D A [(q0, .inr (3, [.int (m_f h n)]))] := hD
  have hK : va_K D vwCl [] s := hK
  have hP9 := hP.sub (ws' := [(q0, .inr (3, [.int (m_f h n)]))]) [0] rfl
  have hD9 := hD.sub (ws' := [(q0, .inr (3, [.int (m_f h n)]))]) [0] (by decide) rfl
  have hK9 := hK.sub (tys' := []) [] rfl
  refine W.widen (k := 1) (n := 1) (by omega) (by omega) ?_
  exact W.aret (v := .ref q0) hx hb hr (Or.inl ⟨_, rfl⟩) (Or.inr ⟨_, rfl⟩) (fun t ht hW => ⟨⟨(), _, rfl, trivial, hk_at ht hW hP9 hK9 hD9⟩, hS.F ht⟩) hS.2.2 dX3_fmix_39
set_option maxHeartbeats 4000000 in
set_option maxRecDepth 100000 in
/-- Murmur3_32HashFunction(x, true) -/
theorem met_in (l : Launch) (D : va_G) (sz : Nat) (h0 : Nat) (v0 v1 x : Int32) : Met l yX3_init (ws_ yX3_init cX3_init 3 none) ({ frames := 2, cells := 0, slots := 0, locals := 32 }) (va_Pc [.ref h0, .int x, .int 1] (hk_B D [(h0, .inr (2, [.int v0, .int v1]))] [] sz)) (va_Qv (S := Unit) (fun _ => True) (fun u => hk_E D ([(h0, .inr (2, [.int x, .int 1]))]) ([]) (va_A [(h0, .inr (2, [.int v0, .int v1]))] sz)) (va_A [(h0, .inr (2, [.int v0, .int v1]))] sz)) 0 0 (va_A [(h0, .inr (2, [.int v0, .int v1]))] sz) := by
  refine Met.ofW (cc := cX3_init) (maxL := 3) (ret := none) (by decide +kernel) rfl ?_
  intro p e s m args below meth c s₁ B hml hv
  obtain ⟨rfl, hsz, hP, hK, hD0, hN⟩ := hv
  have hx := B.exec
  have hb := B.bytes
  have hr := B.returns
  have hts := atoms_spec (ws := (ws_ yX3_init cX3_init 3 none)) B.pre
  have hts : ∀ w ∈ lw_all, w.before _ s = true := fun w h => hts w (List.mem_cons_of_mem _ h)
  have hown : s.vm.findClass RX3 = some m.cls := findClass_of_methodNamed B.named
  have hlocks := B.notSynchronized
  have hin : meth.name = "<init>" := (name_of_methodNamed B.named B.method).1
  subst hsz
  have hD := hD0.self (sz := s.heap.size)
  generalize hAe : va_A [(h0, .inr (2, [.int v0, .int v1]))] s.heap.size = A at hD ⊢
  have hA : ∀ q : Nat, s.heap.size ≤ q → A q := fun q h => by rw [← hAe]; exact Or.inr h
  have hS : va_S A s.heap s.heap [] := va_S.rf
  have hP : va_P D vwCl [(h0, .inr (2, [.int v0, .int v1]))] s.heap := hP
  have hl := lv_entry ([.ref h0, .int x, .int 1]) (n := 3) (Nat.le_of_ble_eq_true rfl)
  rw [lg_entry_eq]
  generalize (lg_sl ([.ref h0, .int x, .int 1]) ++ List.replicate (3 - (lg_sl ([.ref h0, .int x, .int 1])).length) Slot.unset).toArray = ls at hl ⊢
  have hl : lv_has ls 3 [(0, .ref h0), (1, .int x), (2, .int 1)] := hl
  refine lv_aload_n hx hb dX3_init_0 rfl (lv_at hl 0 rfl) ?_
  refine va_csv (va_Run.run (va_runI (As := []) (rest := []) ⟨hx, hb, hml, hown, hts⟩ (met_ia l D h0) (cwI 0 hts (lw_meth q73) rfl rfl rfl (hts _ q8) (hts _ q71) (hts _ q72) rfl (by decide +kernel) ⟨Nat.le_of_ble_eq_true rfl, Nat.le_of_ble_eq_true rfl⟩) (hk_CS (hP.sub (ws' := []) [] rfl) (hK.sub (tys' := []) [] rfl) hN) rfl rfl hl.1 rfl (lv_room (Nat.le_of_ble_eq_true rfl)) dX3_init_1 ⟨Nat.le_of_ble_eq_true rfl, Nat.le_of_ble_eq_true rfl⟩)) (fun hr_1 => ?_)
  refine lv_aload_n hx hb dX3_init_4 rfl (lv_at hl 0 rfl) ?_
  refine lv_iload_n hx hb dX3_init_5 rfl (lv_at hl 1 rfl) ?_
  refine va_putF (D := D) (ci := 2) (v := .int x) (ty := .int) (C := RX3) (T := TX3) (N := 2) hx hb hts in_X3 tyX3 tyX3_ok nmX3 hown hK hP hD hS 0 rfl rfl 0 (by decide) (hts _ q75) (fun _ h9 => h9) rfl hin rfl (by decide +kernel) rfl rfl (Nat.le_of_ble_eq_true rfl) dX3_init_6 (fun H locs hP hD hS => ?_)
  have hP : va_P D vwCl [(h0, .inr (2, [.int x, .int v1]))] H := hP
  have hD : va_D A [(h0, .inr (2, [.int x, .int v1]))] := hD
  refine lv_aload_n hx hb dX3_init_9 rfl (lv_at hl 0 rfl) ?_
  refine lv_iload_n hx hb dX3_init_10 rfl (lv_at hl 2 rfl) ?_
  refine va_putF (D := D) (ci := 2) (v := .int 1) (ty := .boolean) (C := RX3) (T := TX3) (N := 2) hx hb hts in_X3 tyX3 tyX3_ok nmX3 hown hK hP hD hS 0 rfl rfl 1 (by decide) (hts _ q76) (fun _ h9 => h9) rfl hin rfl (by decide +kernel) rfl rfl (Nat.le_of_ble_eq_true rfl) dX3_init_11 (fun H locs hP hD hS => ?_)
  have hP : va_P D vwCl [(h0, .inr (2, [.int x, .int 1]))] H := hP
  have hD : va_D A [(h0, .inr (2, [.int x, .int 1]))] := hD
  have hP9 := hP.sub (ws' := [(h0, .inr (2, [.int x, .int 1]))]) [0] rfl
  have hD9 := hD.sub (ws' := [(h0, .inr (2, [.int x, .int 1]))]) [0] (by decide) rfl
  have hK9 := hK.sub (tys' := []) [] rfl
  exact W.vret hx hb hr (fun t ht hW => ⟨⟨(), rfl, trivial, hk_at ht hW hP9 hK9 hD9⟩, hS.F ht⟩) hS.2.2 dX3_init_14
set_option maxHeartbeats 4000000 in
set_option maxRecDepth 100000 in
/-- Murmur3_32Hasher(x) -/
theorem met_ha (l : Launch) (D : va_G) (sz : Nat) (h0 : Nat) (x : Int32) : Met l yX9_init (ws_ yX9_init cX9_init 2 none) ({ frames := 2, cells := 0, slots := 0, locals := 32 }) (va_Pc [.ref h0, .int x] (hk_B D [(h0, .inr (4, [.int 0, .long 0, .int 0, .int 0, .int 0]))] [] sz)) (va_Qv (S := Unit) (fun _ => True) (fun u => hk_E D ([(h0, .inr (4, [.int x, .long 0, .int 0, .int 0, .int 0]))]) ([]) (va_A [(h0, .inr (4, [.int 0, .long 0, .int 0, .int 0, .int 0]))] sz)) (va_A [(h0, .inr (4, [.int 0, .long 0, .int 0, .int 0, .int 0]))] sz)) 0 0 (va_A [(h0, .inr (4, [.int 0, .long 0, .int 0, .int 0, .int 0]))] sz) := by
  refine Met.ofW (cc := cX9_init) (maxL := 2) (ret := none) (by decide +kernel) rfl ?_
  intro p e s m args below meth c s₁ B hml hv
  obtain ⟨rfl, hsz, hP, hK, hD0, hN⟩ := hv
  have hx := B.exec
  have hb := B.bytes
  have hr := B.returns
  have hts := atoms_spec (ws := (ws_ yX9_init cX9_init 2 none)) B.pre
  have hts : ∀ w ∈ lw_all, w.before _ s = true := fun w h => hts w (List.mem_cons_of_mem _ h)
  have hown : s.vm.findClass RX9 = some m.cls := findClass_of_methodNamed B.named
  have hlocks := B.notSynchronized
  have hin : meth.name = "<init>" := (name_of_methodNamed B.named B.method).1
  subst hsz
  have hD := hD0.self (sz := s.heap.size)
  generalize hAe : va_A [(h0, .inr (4, [.int 0, .long 0, .int 0, .int 0, .int 0]))] s.heap.size = A at hD ⊢
  have hA : ∀ q : Nat, s.heap.size ≤ q → A q := fun q h => by rw [← hAe]; exact Or.inr h
  have hS : va_S A s.heap s.heap [] := va_S.rf
  have hP : va_P D vwCl [(h0, .inr (4, [.int 0, .long 0, .int 0, .int 0, .int 0]))] s.heap := hP
  have hl := lv_entry ([.ref h0, .int x]) (n := 2) (Nat.le_of_ble_eq_true rfl)
  rw [lg_entry_eq]
  generalize (lg_sl ([.ref h0, .int x]) ++ List.replicate (2 - (lg_sl ([.ref h0, .int x])).length) Slot.unset).toArray = ls at hl ⊢
  have hl : lv_has ls 2 [(0, .ref h0), (1, .int x)] := hl
  refine lv_aload_n hx hb dX9_init_0 rfl (lv_at hl 0 rfl) ?_
  refine va_csv (va_Run.run (va_runI (As := []) (rest := []) ⟨hx, hb, hml, hown, hts⟩ (met_ih l D h0) (cwI 0 hts (lw_meth q93) rfl rfl rfl (hts _ q22) (hts _ q91) (hts _ q92) rfl (by decide +kernel) ⟨Nat.le_of_ble_eq_true rfl, Nat.le_of_ble_eq_true rfl⟩) (hk_CS (hP.sub (ws' := []) [] rfl) (hK.sub (tys' := []) [] rfl) hN) rfl rfl hl.1 rfl (lv_room (Nat.le_of_ble_eq_true rfl)) dX9_init_1 ⟨Nat.le_of_ble_eq_true rfl, Nat.le_of_ble_eq_true rfl⟩)) (fun hr_1 => ?_)
  refine lv_aload_n hx hb dX9_init_4 rfl (lv_at hl 0 rfl) ?_
  refine lv_iload_n hx hb dX9_init_5 rfl (lv_at hl 1 rfl) ?_
  refine va_put (D := D) (ci := 4) (v := .int x) (ty := .int) (C := RX9) (T := TX9) (N := 5) hx hb hts in_X9 tyX9 tyX9_ok nmX9 hown hK hP hD hS 0 rfl rfl 0 (by decide) (hts _ q95) (fun _ h9 => h9) rfl (by decide +kernel) rfl rfl (Nat.le_of_ble_eq_true rfl) dX9_init_6 (fun H locs hP hD hS => ?_)
  have hP : va_P D vwCl [(h0, .inr (4, [.int x, .long 0, .int 0, .int 0, .int 0]))] H := hP
  have hD : va_D A [(h0, .inr (4, [.int x, .long 0, .int 0, .int 0, .int 0]))] := hD
  refine lv_aload_n hx hb dX9_init_9 rfl (lv_at hl 0 rfl) ?_
  refine lv_iconst (v := 0) hx hb dX9_init_10 (by decide) ?_
  refine va_put (D := D) (ci := 4) (v := .int 0) (ty := .int) (C := RX9) (T := TX9) (N := 5) hx hb hts in_X9 tyX9 tyX9_ok nmX9 hown hK hP hD hS 0 rfl rfl 3 (by decide) (hts _ q98) (fun _ h9 => h9) rfl (by decide +kernel) rfl rfl (Nat.le_of_ble_eq_true rfl) dX9_init_11 (fun H locs hP hD hS => ?_)
  have hP : va_P D vwCl [(h0, .inr (4, [.int x, .long 0, .int 0, .int 0, .int 0]))] H := hP
  have hD : va_D A [(h0, .inr (4, [.int x, .long 0, .int 0, .int 0, .int 0]))] := hD
  refine lv_aload_n hx hb dX9_init_14 rfl (lv_at hl 0 rfl) ?_
  refine lv_iconst (v := 0) hx hb dX9_init_15 (by decide) ?_
  refine va_put (D := D) (ci := 4) (v := .int 0) (ty := .boolean) (C := RX9) (T := TX9) (N := 5) hx hb hts in_X9 tyX9 tyX9_ok nmX9 hown hK hP hD hS 0 rfl rfl 4 (by decide) (hts _ q99) (fun _ h9 => h9) rfl (by decide +kernel) rfl rfl (Nat.le_of_ble_eq_true rfl) dX9_init_16 (fun H locs hP hD hS => ?_)
  have hP : va_P D vwCl [(h0, .inr (4, [.int x, .long 0, .int 0, .int 0, .int 0]))] H := hP
  have hD : va_D A [(h0, .inr (4, [.int x, .long 0, .int 0, .int 0, .int 0]))] := hD
  have hP9 := hP.sub (ws' := [(h0, .inr (4, [.int x, .long 0, .int 0, .int 0, .int 0]))]) [0] rfl
  have hD9 := hD.sub (ws' := [(h0, .inr (4, [.int x, .long 0, .int 0, .int 0, .int 0]))]) [0] (by decide) rfl
  have hK9 := hK.sub (tys' := []) [] rfl
  exact W.vret hx hb hr (fun t ht hW => ⟨⟨(), rfl, trivial, hk_at ht hW hP9 hK9 hD9⟩, hS.F ht⟩) hS.2.2 dX9_init_19
set_option maxHeartbeats 4000000 in
set_option maxRecDepth 100000 in
/-- newHasher -/
theorem met_nh (l : Launch) (D : va_G) (sz : Nat) (h0 : Nat) (x v1 : Int32) : Met l yX3_newHasher (ws_ yX3_newHasher cX3_newHasher 1 (some (.object "Hasher"))) ({ frames := 3, cells := 1, slots := 5, locals := 53 }) (va_Pc [.ref h0] (hk_B D [(h0, .inr (2, [.int x, .int v1]))] [] sz)) (va_Qr (S := Unit) (fun _ => True) (fun u q => hk_E D ([(h0, .inr (2, [.int x, .int v1])), (q, .inr (4, [.int x, .long 0, .int 0, .int 0, .int 0]))]) ([]) (va_A [(h0, .inr (2, [.int x, .int v1]))] sz)) (va_A [(h0, .inr (2, [.int x, .int v1]))] sz)) 1 5 (va_A [(h0, .inr (2, [.int x, .int v1]))] sz) := by
  refine Met.ofW (cc := cX3_newHasher) (maxL := 1) (ret := (some (.object "Hasher"))) (by decide +kernel) rfl ?_
  intro p e s m args below meth c s₁ B hml hv
  obtain ⟨rfl, hsz, hP, hK, hD0, hN⟩ := hv
  have hx := B.exec
  have hb := B.bytes
  have hr := B.returns
  have hts := atoms_spec (ws := (ws_ yX3_newHasher cX3_newHasher 1 (some (.object "Hasher")))) B.pre
  have hts : ∀ w ∈ lw_all, w.before _ s = true := fun w h => hts w (List.mem_cons_of_mem _ h)
  have hown : s.vm.findClass RX3 = some m.cls := findClass_of_methodNamed B.named
  have hlocks := B.notSynchronized
  subst hsz
  have hD := hD0.self (sz := s.heap.size)
  generalize hAe : va_A [(h0, .inr (2, [.int x, .int v1]))] s.heap.size = A at hD ⊢
  have hA : ∀ q : Nat, s.heap.size ≤ q → A q := fun q h => by rw [← hAe]; exact Or.inr h
  have hS : va_S A s.heap s.heap [] := va_S.rf
  have hP : va_P D vwCl [(h0, .inr (2, [.int x, .int v1]))] s.heap := hP
  have hl := lv_entry ([.ref h0]) (n := 1) (Nat.le_of_ble_eq_true rfl)
  rw [lg_entry_eq]
  generalize (lg_sl ([.ref h0]) ++ List.replicate (1 - (lg_sl ([.ref h0])).length) Slot.unset).toArray = ls at hl ⊢
  have hl : lv_has ls 1 [(0, .ref h0)] := hl
  refine va_new (ci := 4) (fs := [.int 0, .long 0, .int 0, .int 0, .int 0]) (C := RX9) (T := TX9) (N := 5) hx hb hts in_X9 tyX9 tyX9_ok hown (hts _ q86) (hts _ q87) (hts _ q23) hK hP hD hS hA rfl (fun j hj => by rcases (show j = 0 ∨ j = 1 ∨ j = 2 ∨ j = 3 ∨ j = 4 by omega) with rfl | rfl | rfl | rfl | rfl <;> rfl) (Nat.le_of_ble_eq_true rfl) (Nat.le_of_ble_eq_true rfl) dX3_newHasher_0 (fun q0 H hP hD hS => ?_)
  have hP : va_P D vwCl [(h0, .inr (2, [.int x, .int v1])), (q0, .inr (4, [.int 0, .long 0, .int 0, .int 0, .int 0]))] H := hP
  have hD : va_D A [(h0, .inr (2, [.int x, .int v1])), (q0, .inr (4, [.int 0, .long 0, .int 0, .int 0, .int 0]))] := hD
  refine lv_dup hx hb dX3_newHasher_3 rfl ?_
  refine lv_aload_n hx hb dX3_newHasher_4 rfl (lv_at hl 0 rfl) ?_
  refine va_get (D := D) (ci := 2) (v := .int x) (C := RX3) (T := TX3) (N := 2) hx hb hts in_X3 hown hK hP 0 rfl rfl 0 (by decide) (hts _ q75) (fun _ h9 => h9) rfl dX3_newHasher_5 ?_
  refine hk_cv (wr := [(h0, .inr (2, [.int x, .int v1]))]) (va_runI (As := [.int x]) (rest := [.ref q0]) ⟨hx, hb, hml, hown, hts⟩ (met_ha l D H.size q0 x) (cwI 1 hts (lw_meth q90) rfl rfl rfl (hts _ q23) (hts _ q88) (hts _ q89) rfl (by decide +kernel) ⟨Nat.le_of_ble_eq_true rfl, Nat.le_of_ble_eq_true rfl⟩) (hk_BS (hP.sub (ws' := [(q0, .inr (4, [.int 0, .long 0, .int 0, .int 0, .int 0]))]) [1] rfl) (hK.sub (tys' := []) [] rfl) hN (hD.sub (ws' := [(q0, .inr (4, [.int 0, .long 0, .int 0, .int 0, .int 0]))]) [1] (by decide) rfl)) rfl rfl hl.1 rfl (lv_room (Nat.le_of_ble_eq_true rfl)) dX3_newHasher_8 ⟨Nat.le_of_ble_eq_true rfl, Nat.le_of_ble_eq_true rfl⟩) hP hD hK hS hA [1] [0] rfl rfl (by decide) (by decide) (fun u_3 H locs h_2 hP hD hK hS => ?_)
  have hP : va_P D vwCl [(h0, .inr (2, [.int x, .int v1])), (q0, .inr (4, [.int x, .long 0, .int 0, .int 0, .int 0]))] H := hP
  have hD : va_D A [(h0, .inr (2, [.int x, .int v1])), (q0, .inr (4, [.int x, .long 0, .int 0, .int 0, .int 0]))] := hD
  have hK : va_K D vwCl [] s := hK
  have hP9 := hP.sub (ws' := [(h0, .inr (2, [.int x, .int v1])), (q0, .inr (4, [.int x, .long 0, .int 0, .int 0, .int 0]))]) [0, 1] rfl
  have hD9 := hD.sub (ws' := [(h0, .inr (2, [.int x, .int v1])), (q0, .inr (4, [.int x, .long 0, .int 0, .int 0, .int 0]))]) [0, 1] (by decide) rfl
  have hK9 := hK.sub (tys' := []) [] rfl
  refine W.widen (k := 1) (n := 5) (by omega) (by omega) ?_
  exact W.aret (v := .ref q0) hx hb hr (Or.inl ⟨_, rfl⟩) (Or.inr ⟨_, rfl⟩) (fun t ht hW => ⟨⟨(), _, rfl, trivial, hk_at ht hW hP9 hK9 hD9⟩, hS.F ht⟩) hS.2.2 dX3_newHasher_11
set_option maxHeartbeats 4000000 in
set_option maxRecDepth 100000 in
/-- hashInt -/
theorem met_hi (l : Launch) (D : va_G) (sz : Nat) (h0 : Nat) (x v1 v : Int32) : Met l yX3_hashInt (ws_ yX3_hashInt cX3_hashInt 4 (some (.object "HashCode"))) ({ frames := 5, cells := 1, slots := 1, locals := 94 }) (va_Pc [.ref h0, .int v] (hk_B D [(h0, .inr (2, [.int x, .int v1]))] [] sz)) (va_Qr (S := Unit) (fun _ => True) (fun u q => hk_E D ([(h0, .inr (2, [.int x, .int v1])), (q, .inr (3, [.int (m_hash (gL (uN v)) 4 x)]))]) ([]) (va_A [(h0, .inr (2, [.int x, .int v1]))] sz)) (va_A [(h0, .inr (2, [.int x, .int v1]))] sz)) 1 1 (va_A [(h0, .inr (2, [.int x, .int v1]))] sz) := by
  refine Met.ofW (cc := cX3_hashInt) (maxL := 4) (ret := (some (.object "HashCode"))) (by decide +kernel) rfl ?_
  intro p e s m args below meth c s₁ B hml hv
  obtain ⟨rfl, hsz, hP, hK, hD0, hN⟩ := hv
  have hx := B.exec
  have hb := B.bytes
  have hr := B.returns
  have hts := atoms_spec (ws := (ws_ yX3_hashInt cX3_hashInt 4 (some (.object "HashCode")))) B.pre
  have hts : ∀ w ∈ lw_all, w.before _ s = true := fun w h => hts w (List.mem_cons_of_mem _ h)
  have hown : s.vm.findClass RX3 = some m.cls := findClass_of_methodNamed B.named
  have hlocks := B.notSynchronized
  subst hsz
  have hD := hD0.self (sz := s.heap.size)
  generalize hAe : va_A [(h0, .inr (2, [.int x, .int v1]))] s.heap.size = A at hD ⊢
  have hA : ∀ q : Nat, s.heap.size ≤ q → A q := fun q h => by rw [← hAe]; exact Or.inr h
  have hS : va_S A s.heap s.heap [] := va_S.rf
  have hP : va_P D vwCl [(h0, .inr (2, [.int x, .int v1]))] s.heap := hP
  have hl := lv_entry ([.ref h0, .int v]) (n := 4) (Nat.le_of_ble_eq_true rfl)
  rw [lg_entry_eq]
  generalize (lg_sl ([.ref h0, .int v]) ++ List.replicate (4 - (lg_sl ([.ref h0, .int v])).length) Slot.unset).toArray = ls at hl ⊢
  have hl : lv_has ls 4 [(0, .ref h0), (1, .int v)] := hl
  refine lv_iload_n hx hb dX3_hashInt_0 rfl (lv_at hl 1 rfl) ?_
  refine vp_callSi (va_Run.run (va_runS (As := [.int v]) (rest := []) ⟨hx, hb, hml, hown, hts⟩ (met_mk l D v) (va_cwS 1 hts (lw_S q340 q210 q9 q211) rfl rfl rfl (by decide +kernel) ⟨Nat.le_of_ble_eq_true rfl, Nat.le_of_ble_eq_true rfl⟩) (hk_CS (hP.sub (ws' := []) [] rfl) (hK.sub (tys' := []) [] rfl) hN) rfl rfl hl.1 rfl (lv_room (Nat.le_of_ble_eq_true rfl)) dX3_hashInt_1 ⟨Nat.le_of_ble_eq_true rfl, Nat.le_of_ble_eq_true rfl⟩)) (fun r_1 hr_1 => ?_)
  obtain rfl : r_1 = m_k v := hr_1
  refine lv_istore_n (lv' := [(2, .int (m_k v)), (0, .ref h0), (1, .int v)]) hx hb dX3_hashInt_4 rfl hl (by decide) rfl (fun ls hl => ?_)
  refine lv_aload_n hx hb dX3_hashInt_5 rfl (lv_at hl 1 rfl) ?_
  refine va_get (D := D) (ci := 2) (v := .int x) (C := RX3) (T := TX3) (N := 2) hx hb hts in_X3 hown hK hP 0 rfl rfl 0 (by decide) (hts _ q75) (fun _ h9 => h9) rfl dX3_hashInt_6 ?_
  refine lv_iload_n hx hb dX3_hashInt_9 rfl (lv_at hl 0 rfl) ?_
  refine vp_callSi (va_Run.run (va_runS (As := [.int x, .int (m_k v)]) (rest := []) ⟨hx, hb, hml, hown, hts⟩ (met_mh l D x (m_k v)) (va_cwS 2 hts (lw_S q341 q218 q9 q219) rfl rfl rfl (by decide +kernel) ⟨Nat.le_of_ble_eq_true rfl, Nat.le_of_ble_eq_true rfl⟩) (hk_CS (hP.sub (ws' := []) [] rfl) (hK.sub (tys' := []) [] rfl) hN) rfl rfl hl.1 rfl (lv_room (Nat.le_of_ble_eq_true rfl)) dX3_hashInt_10 ⟨Nat.le_of_ble_eq_true rfl, Nat.le_of_ble_eq_true rfl⟩)) (fun r_2 hr_2 => ?_)
  obtain rfl : r_2 = m_h x (m_k v) := hr_2
  refine lv_istore_n (lv' := [(3, .int (m_h x (m_k v))), (2, .int (m_k v)), (0, .ref h0), (1, .int v)]) hx hb dX3_hashInt_13 rfl hl (by decide) rfl (fun ls hl => ?_)
  refine lv_iload_n hx hb dX3_hashInt_14 rfl (lv_at hl 0 rfl) ?_
  refine lv_iconst (v := 4) hx hb dX3_hashInt_15 (by decide) ?_
  refine hk_cr (wr := [(h0, .inr (2, [.int x, .int v1]))]) (va_runS (As := [.int (m_h x (m_k v)), .int 4]) (rest := []) ⟨hx, hb, hml, hown, hts⟩ (met_fm l D s.heap.size (m_h x (m_k v)) 4) (va_cwS 2 hts (lw_S q345 q304 q9 q305) rfl rfl rfl (by decide +kernel) ⟨Nat.le_of_ble_eq_true rfl, Nat.le_of_ble_eq_true rfl⟩) (hk_BS (hP.sub (ws' := []) [] rfl) (hK.sub (tys' := []) [] rfl) hN (hD.sub (ws' := []) [] (by decide) rfl)) rfl rfl hl.1 rfl (lv_room (Nat.le_of_ble_eq_true rfl)) dX3_hashInt_16 ⟨Nat.le_of_ble_eq_true rfl, Nat.le_of_ble_eq_true rfl⟩) hP hD hK hS hA [] [0] rfl rfl (by decide) (by decide) (fun u_5 q0 H locs h_4 hP hD hK hS => ?_)
  have hP : va_P D vwCl [(h0, .inr (2, [.int x, .int v1])), (q0, .inr (3, [.int (m_f (m_h x (m_k v)) 4)]))] H := hP
  have hD : va_D A [(h0, .inr (2, [.int x, .int v1])), (q0, .inr (3, [.int (m_f (m_h x (m_k v)) 4)]))] := hD
  have hK : va_K D vwCl [] s := hK
  rw [m_hash4 v x] at hP hD
  have hP9 := hP.sub (ws' := [(h0, .inr (2, [.int x, .int v1])), (q0, .inr (3, [.int (m_hash (gL (uN v)) 4 x)]))]) [0, 1] rfl
  have hD9 := hD.sub (ws' := [(h0, .inr (2, [.int x, .int v1])), (q0, .inr (3, [.int (m_hash (gL (uN v)) 4 x)]))]) [0, 1] (by decide) rfl
  have hK9 := hK.sub (tys' := []) [] rfl
  refine W.widen (k := 1) (n := 1) (by omega) (by omega) ?_
  exact W.aret (v := .ref q0) hx hb hr (Or.inl ⟨_, rfl⟩) (Or.inr ⟨_, rfl⟩) (fun t ht hW => ⟨⟨(), _, rfl, trivial, hk_at ht hW hP9 hK9 hD9⟩, hS.F ht⟩) hS.2.2 dX3_hashInt_19
set_option maxHeartbeats 4000000 in
set_option maxRecDepth 100000 in
/-- hashLong -/
theorem met_hl (l : Launch) (D : va_G) (sz : Nat) (h0 : Nat) (x v1 : Int32) (v : Int64) : Met l yX3_hashLong (ws_ yX3_hashLong cX3_hashLong 7 (some (.object "HashCode"))) ({ frames := 5, cells := 1, slots := 1, locals := 94 }) (va_Pc [.ref h0, .long v] (hk_B D [(h0, .inr (2, [.int x, .int v1]))] [] sz)) (va_Qr (S := Unit) (fun _ => True) (fun u q => hk_E D ([(h0, .inr (2, [.int x, .int v1])), (q, .inr (3, [.int (m_hash (gL (uL v)) 8 x)]))]) ([]) (va_A [(h0, .inr (2, [.int x, .int v1]))] sz)) (va_A [(h0, .inr (2, [.int x, .int v1]))] sz)) 1 1 (va_A [(h0, .inr (2, [.int x, .int v1]))] sz) := by
  refine Met.ofW (cc := cX3_hashLong) (maxL := 7) (ret := (some (.object "HashCode"))) (by decide +kernel) rfl ?_
  intro p e s m args below meth c s₁ B hml hv
  obtain ⟨rfl, hsz, hP, hK, hD0, hN⟩ := hv
  have hx := B.exec
  have hb := B.bytes
  have hr := B.returns
  have hts := atoms_spec (ws := (ws_ yX3_hashLong cX3_hashLong 7 (some (.object "HashCode")))) B.pre
  have hts : ∀ w ∈ lw_all, w.before _ s = true := fun w h => hts w (List.mem_cons_of_mem _ h)
  have hown : s.vm.findClass RX3 = some m.cls := findClass_of_methodNamed B.named
  have hlocks := B.notSynchronized
  subst hsz
  have hD := hD0.self (sz := s.heap.size)
  generalize hAe : va_A [(h0, .inr (2, [.int x, .int v1]))] s.heap.size = A at hD ⊢
  have hA : ∀ q : Nat, s.heap.size ≤ q → A q := fun q h => by rw [← hAe]; exact Or.inr h
  have hS : va_S A s.heap s.heap [] := va_S.rf
  have hP : va_P D vwCl [(h0, .inr (2, [.int x, .int v1]))] s.heap := hP
  have hl := lv_entry ([.ref h0, .long v]) (n := 7) (Nat.le_of_ble_eq_true rfl)
  rw [lg_entry_eq]
  generalize (lg_sl ([.ref h0, .long v]) ++ List.replicate (7 - (lg_sl ([.ref h0, .long v])).length) Slot.unset).toArray = ls at hl ⊢
  have hl : lv_has ls 7 [(0, .ref h0), (1, .long v)] := hl
  refine lv_lload_n hx hb dX3_hashLong_0 rfl (lv_at hl 1 rfl) ?_
  refine lv_l2i (v := v.toInt32) hx hb dX3_hashLong_1 rfl ?_
  refine lv_topi (fun lo elo => ?_)
  refine lv_istore_n (lv' := [(3, .int lo), (0, .ref h0), (1, .long v)]) hx hb dX3_hashLong_2 rfl hl (by decide) rfl (fun ls hl => ?_)
  refine lv_lload_n hx hb dX3_hashLong_3 rfl (lv_at hl 2 rfl) ?_
  refine lv_bipush (v := 32) hx hb dX3_hashLong_4 (by decide) ?_
  refine lv_lushr (v := (v.toUInt64 >>> ((32 : Int32).toInt64.toUInt64 &&& Int64.toUInt64 63)).toInt64) hx hb dX3_hashLong_6 rfl ?_
  refine lv_l2i (v := ((v.toUInt64 >>> ((32 : Int32).toInt64.toUInt64 &&& Int64.toUInt64 63)).toInt64).toInt32) hx hb dX3_hashLong_7 rfl ?_
  refine lv_topi (fun hi ehi => ?_)
  refine lv_istore (lv' := [(4, .int hi), (3, .int lo), (0, .ref h0), (1, .long v)]) hx hb dX3_hashLong_8 hl (by decide) rfl (fun ls hl => ?_)
  refine lv_iload_n hx hb dX3_hashLong_10 rfl (lv_at hl 1 rfl) ?_
  refine vp_callSi (va_Run.run (va_runS (As := [.int lo]) (rest := []) ⟨hx, hb, hml, hown, hts⟩ (met_mk l D lo) (va_cwS 1 hts (lw_S q340 q210 q9 q211) rfl rfl rfl (by decide +kernel) ⟨Nat.le_of_ble_eq_true rfl, Nat.le_of_ble_eq_true rfl⟩) (hk_CS (hP.sub (ws' := []) [] rfl) (hK.sub (tys' := []) [] rfl) hN) rfl rfl hl.1 rfl (lv_room (Nat.le_of_ble_eq_true rfl)) dX3_hashLong_11 ⟨Nat.le_of_ble_eq_true rfl, Nat.le_of_ble_eq_true rfl⟩)) (fun r_1 hr_1 => ?_)
  obtain rfl : r_1 = m_k lo := hr_1
  refine lv_istore (lv' := [(5, .int (m_k lo)), (4, .int hi), (3, .int lo), (0, .ref h0), (1, .long v)]) hx hb dX3_hashLong_14 hl (by decide) rfl (fun ls hl => ?_)
  refine lv_aload_n hx hb dX3_hashLong_16 rfl (lv_at hl 3 rfl) ?_
  refine va_get (D := D) (ci := 2) (v := .int x) (C := RX3) (T := TX3) (N := 2) hx hb hts in_X3 hown hK hP 0 rfl rfl 0 (by decide) (hts _ q75) (fun _ h9 => h9) rfl dX3_hashLong_17 ?_
  refine lv_iload hx hb dX3_hashLong_20 (lv_at hl 0 rfl) ?_
  refine vp_callSi (va_Run.run (va_runS (As := [.int x, .int (m_k lo)]) (rest := []) ⟨hx, hb, hml, hown, hts⟩ (met_mh l D x (m_k lo)) (va_cwS 2 hts (lw_S q341 q218 q9 q219) rfl rfl rfl (by decide +kernel) ⟨Nat.le_of_ble_eq_true rfl, Nat.le_of_ble_eq_true rfl⟩) (hk_CS (hP.sub (ws' := []) [] rfl) (hK.sub (tys' := []) [] rfl) hN) rfl rfl hl.1 rfl (lv_room (Nat.le_of_ble_eq_true rfl)) dX3_hashLong_22 ⟨Nat.le_of_ble_eq_true rfl, Nat.le_of_ble_eq_true rfl⟩)) (fun r_2 hr_2 => ?_)
  obtain rfl : r_2 = m_h x (m_k lo) := hr_2
  refine lv_istore (lv' := [(6, .int (m_h x (m_k lo))), (5, .int (m_k lo)), (4, .int hi), (3, .int lo), (0, .ref h0), (1, .long v)]) hx hb dX3_hashLong_25 hl (by decide) rfl (fun ls hl => ?_)
  refine lv_iload hx hb dX3_hashLong_27 (lv_at hl 2 rfl) ?_
  refine vp_callSi (va_Run.run (va_runS (As := [.int hi]) (rest := []) ⟨hx, hb, hml, hown, hts⟩ (met_mk l D hi) (va_cwS 1 hts (lw_S q340 q210 q9 q211) rfl rfl rfl (by decide +kernel) ⟨Nat.le_of_ble_eq_true rfl, Nat.le_of_ble_eq_true rfl⟩) (hk_CS (hP.sub (ws' := []) [] rfl) (hK.sub (tys' := []) [] rfl) hN) rfl rfl hl.1 rfl (lv_room (Nat.le_of_ble_eq_true rfl)) dX3_hashLong_29 ⟨Nat.le_of_ble_eq_true rfl, Nat.le_of_ble_eq_true rfl⟩)) (fun r_3 hr_3 => ?_)
  obtain rfl : r_3 = m_k hi := hr_3
  refine lv_istore (lv' := [(5, .int (m_k hi)), (6, .int (m_h x (m_k lo))), (4, .int hi), (3, .int lo), (0, .ref h0), (1, .long v)]) hx hb dX3_hashLong_32 hl (by decide) rfl (fun ls hl => ?_)
  refine lv_iload hx hb dX3_hashLong_34 (lv_at hl 1 rfl) ?_
  refine lv_iload hx hb dX3_hashLong_36 (lv_at hl 0 rfl) ?_
  refine vp_callSi (va_Run.run (va_runS (As := [.int (m_h x (m_k lo)), .int (m_k hi)]) (rest := []) ⟨hx, hb, hml, hown, hts⟩ (met_mh l D (m_h x (m_k lo)) (m_k hi)) (va_cwS 2 hts (lw_S q341 q218 q9 q219) rfl rfl rfl (by decide +kernel) ⟨Nat.le_of_ble_eq_true rfl, Nat.le_of_ble_eq_true rfl⟩) (hk_CS (hP.sub (ws' := []) [] rfl) (hK.sub (tys' := []) [] rfl) hN) rfl rfl hl.1 rfl (lv_room (Nat.le_of_ble_eq_true rfl)) dX3_hashLong_38 ⟨Nat.le_of_ble_eq_true rfl, Nat.le_of_ble_eq_true rfl⟩)) (fun r_4 hr_4 => ?_)
  obtain rfl : r_4 = m_h (m_h x (m_k lo)) (m_k hi) := hr_4
  refine lv_istore (lv' := [(6, .int (m_h (m_h x (m_k lo)) (m_k hi))), (5, .int (m_k hi)), (4, .int hi), (3, .int lo), (0, .ref h0), (1, .long v)]) hx hb dX3_hashLong_41 hl (by decide) rfl (fun ls hl => ?_)
  refine lv_iload hx hb dX3_hashLong_43 (lv_at hl 0 rfl) ?_
  refine lv_bipush (v := 8) hx hb dX3_hashLong_45 (by decide) ?_
  refine hk_cr (wr := [(h0, .inr (2, [.int x, .int v1]))]) (va_runS (As := [.int (m_h (m_h x (m_k lo)) (m_k hi)), .int 8]) (rest := []) ⟨hx, hb, hml, hown, hts⟩ (met_fm l D s.heap.size (m_h (m_h x (m_k lo)) (m_k hi)) 8) (va_cwS 2 hts (lw_S q345 q304 q9 q305) rfl rfl rfl (by decide +kernel) ⟨Nat.le_of_ble_eq_true rfl, Nat.le_of_ble_eq_true rfl⟩) (hk_BS (hP.sub (ws' := []) [] rfl) (hK.sub (tys' := []) [] rfl) hN (hD.sub (ws' := []) [] (by decide) rfl)) rfl rfl hl.1 rfl (lv_room (Nat.le_of_ble_eq_true rfl)) dX3_hashLong_47 ⟨Nat.le_of_ble_eq_true rfl, Nat.le_of_ble_eq_true rfl⟩) hP hD hK hS hA [] [0] rfl rfl (by decide) (by decide) (fun u_7 q0 H locs h_6 hP hD hK hS => ?_)
  have hP : va_P D vwCl [(h0, .inr (2, [.int x, .int v1])), (q0, .inr (3, [.int (m_f (m_h (m_h x (m_k lo)) (m_k hi)) 8)]))] H := hP
  have hD : va_D A [(h0, .inr (2, [.int x, .int v1])), (q0, .inr (3, [.int (m_f (m_h (m_h x (m_k lo)) (m_k hi)) 8)]))] := hD
  have hK : va_K D vwCl [] s := hK
  rw [m_hash8 (uL v) lo hi x (by rw [elo, uN_l2i]) (by rw [ehi, uN_l2i]; exact congrArg (· % 2 ^ 32) (uL_ushr v (n := 32) (by decide)))] at hP hD
  have hP9 := hP.sub (ws' := [(h0, .inr (2, [.int x, .int v1])), (q0, .inr (3, [.int (m_hash (gL (uL v)) 8 x)]))]) [0, 1] rfl
  have hD9 := hD.sub (ws' := [(h0, .inr (2, [.int x, .int v1])), (q0, .inr (3, [.int (m_hash (gL (uL v)) 8 x)]))]) [0, 1] (by decide) rfl
  have hK9 := hK.sub (tys' := []) [] rfl
  refine W.widen (k := 1) (n := 1) (by omega) (by omega) ?_
  exact W.aret (v := .ref q0) hx hb hr (Or.inl ⟨_, rfl⟩) (Or.inr ⟨_, rfl⟩) (fun t ht hW => ⟨⟨(), _, rfl, trivial, hk_at ht hW hP9 hK9 hD9⟩, hS.F ht⟩) hS.2.2 dX3_hashLong_50
set_option maxHeartbeats 4000000 in
set_option maxRecDepth 100000 in
/-- hashBytes -/
theorem met_hb (l : Launch) (D : va_G) (sz : Nat) (h0 h1 n1 : Nat) (c1 : ClassId) (a1 : Nat → Int32) (x v1 : Int32) (off len : Nat) (hn : n1 < 2 ^ 20) (hol : off + len ≤ n1) : Met l yX3_hashBytes (ws_ yX3_hashBytes cX3_hashBytes 8 (some (.object "HashCode"))) ({ frames := 5, cells := 1, slots := 1, locals := 94 }) (va_Pc [.ref h0, .ref h1, .int (nI off), .int (nI len)] (hk_B D [(h0, .inr (2, [.int x, .int v1])), (h1, .inl (c1, n1, .inl a1))] [(c1, .byte)] sz)) (va_Qr (S := Unit) (fun _ => True) (fun u q => hk_E D ([(h0, .inr (2, [.int x, .int v1])), (h1, .inl (c1, n1, .inl a1)), (q, .inr (3, [.int (m_hash (fun j => uN (a1 (off + j))) len x)]))]) ([(c1, .byte)]) (va_A [(h0, .inr (2, [.int x, .int v1])), (h1, .inl (c1, n1, .inl a1))] sz)) (va_A [(h0, .inr (2, [.int x, .int v1])), (h1, .inl (c1, n1, .inl a1))] sz)) 1 1 (va_A [(h0, .inr (2, [.int x, .int v1])), (h1, .inl (c1, n1, .inl a1))] sz) := by
  refine Met.ofW (cc := cX3_hashBytes) (maxL := 8) (ret := (some (.object "HashCode"))) (by decide +kernel) rfl ?_
  intro p e s m args below meth c s₁ B hml hv
  obtain ⟨rfl, hsz, hP, hK, hD0, hN⟩ := hv
  have hx := B.exec
  have hb := B.bytes
  have hr := B.returns
  have hts := atoms_spec (ws := (ws_ yX3_hashBytes cX3_hashBytes 8 (some (.object "HashCode")))) B.pre
  have hts : ∀ w ∈ lw_all, w.before _ s = true := fun w h => hts w (List.mem_cons_of_mem _ h)
  have hown : s.vm.findClass RX3 = some m.cls := findClass_of_methodNamed B.named
  have hlocks := B.notSynchronized
  subst hsz
  have hD := hD0.self (sz := s.heap.size)
  generalize hAe : va_A [(h0, .inr (2, [.int x, .int v1])), (h1, .inl (c1, n1, .inl a1))] s.heap.size = A at hD ⊢
  have hA : ∀ q : Nat, s.heap.size ≤ q → A q := fun q h => by rw [← hAe]; exact Or.inr h
  have hS : va_S A s.heap s.heap [] := va_S.rf
  have hP : va_P D vwCl [(h0, .inr (2, [.int x, .int v1])), (h1, .inl (c1, n1, .inl a1))] s.heap := hP
  have hl := lv_entry ([.ref h0, .ref h1, .int (nI off), .int (nI len)]) (n := 8) (Nat.le_of_ble_eq_true rfl)
  rw [lg_entry_eq]
  generalize (lg_sl ([.ref h0, .ref h1, .int (nI off), .int (nI len)]) ++ List.replicate (8 - (lg_sl ([.ref h0, .ref h1, .int (nI off), .int (nI len)])).length) Slot.unset).toArray = ls at hl ⊢
  have hl : lv_has ls 8 [(0, .ref h0), (1, .ref h1), (2, .int (nI off)), (3, .int (nI len))] := hl
  obtain ⟨d, hd⟩ : ∃ d : Nat → Nat, d = (fun j => uN (a1 (off + j))) := ⟨_, rfl⟩
  have hq : 4 * (len / 4) + len % 4 = len := Nat.div_add_mod len 4
  refine lv_iload_n hx hb dX3_hashBytes_0 rfl (lv_at hl 2 rfl) ?_
  refine lv_iload_n hx hb dX3_hashBytes_1 rfl (lv_at hl 2 rfl) ?_
  refine lv_iload_n hx hb dX3_hashBytes_2 rfl (lv_at hl 3 rfl) ?_
  refine lv_iadd hx hb dX3_hashBytes_3 ?_
  refine hk_ti (y := nI (off + len)) (nI_add off len) ?_
  refine lv_aload_n hx hb dX3_hashBytes_4 rfl (lv_at hl 1 rfl) ?_
  refine va_alen (v := nI n1) hx hb hK hP 1 0 rfl rfl rfl dX3_hashBytes_5 ?_
  refine va_csv (va_Run.run (va_runS (As := [.int (nI off), .int (nI (off + len)), .int (nI n1)]) (rest := []) ⟨hx, hb, hml, hown, hts⟩ (met_cp l D off (off + len) n1 (by omega) hol (by omega)) (va_cwS 3 hts (lw_S q338 q130 q10 q131) rfl rfl rfl (by decide +kernel) ⟨Nat.le_of_ble_eq_true rfl, Nat.le_of_ble_eq_true rfl⟩) (hk_CS (hP.sub (ws' := []) [] rfl) (hK.sub (tys' := []) [] rfl) hN) rfl rfl hl.1 rfl (lv_room (Nat.le_of_ble_eq_true rfl)) dX3_hashBytes_6 ⟨Nat.le_of_ble_eq_true rfl, Nat.le_of_ble_eq_true rfl⟩)) (fun hr_1 => ?_)
  refine lv_aload_n hx hb dX3_hashBytes_9 rfl (lv_at hl 0 rfl) ?_
  refine va_get (D := D) (ci := 2) (v := .int x) (C := RX3) (T := TX3) (N := 2) hx hb hts in_X3 hown hK hP 0 rfl rfl 0 (by decide) (hts _ q75) (fun _ h9 => h9) rfl dX3_hashBytes_10 ?_
  refine lv_istore (lv' := [(4, .int x), (0, .ref h0), (1, .ref h1), (2, .int (nI off)), (3, .int (nI len))]) hx hb dX3_hashBytes_13 hl (by decide) rfl (fun ls hl => ?_)
  refine lv_iconst (v := 0) hx hb dX3_hashBytes_15 (by decide) ?_
  refine lv_istore (lv' := [(5, .int 0), (4, .int x), (0, .ref h0), (1, .ref h1), (2, .int (nI off)), (3, .int (nI len))]) hx hb dX3_hashBytes_16 hl (by decide) rfl (fun ls hl => ?_)
  have loop2 : ∀ (n : Nat) (r : Nat), r ≤ len % 4 → len % 4 + 1 ≤ r + n → ∀ (ls : Array Slot), lv_has ls 8 [(4, .int (m_blk d x (len / 4))), (5, .int (nI (4 * (len / 4) + r))), (6, .int (nI (wN d (4 * (len / 4)) r))), (7, .int (nI (8 * r))), (0, .ref h0), (1, .ref h1), (2, .int (nI off)), (3, .int (nI len))] → W p l e (headSpec (ws_ yX3_hashBytes cX3_hashBytes 8 (some (.object "HashCode"))) ({ frames := 5, cells := 1, slots := 1, locals := 94 })).room s m ([.ref h0, .ref h1, .int (nI off), .int (nI len)] : List Value).toArray below meth c s.heap [] 0 0 (MQ below (va_Qr (S := Unit) (fun _ => True) (fun u q => hk_E D ([(h0, .inr (2, [.int x, .int v1])), (h1, .inl (c1, n1, .inl a1)), (q, .inr (3, [.int (m_hash (fun j => uN (a1 (off + j))) len x)]))]) ([(c1, .byte)]) A) A) ([.ref h0, .ref h1, .int (nI off), .int (nI len)] : List Value).toArray s 1 1 A) (F0 m 60 ls []) := by
    intro n
    induction n with
    | zero =>
      intro r hr4 hfu
      exact absurd hfu (by omega)
    | succ n ih =>
      intro r hr4 hfu ls hl
      refine lv_iload hx hb dX3_hashBytes_60 (lv_at hl 1 rfl) ?_
      refine lv_iload_n hx hb dX3_hashBytes_62 rfl (lv_at hl 7 rfl) ?_
      refine lv_icmp_ge (tgt := 92) hx hb dX3_hashBytes_63 (by decide) (fun c_2 => ?_) (fun c_2 => ?_)
      · have hr5 : r = len % 4 := by have h9 := le_of_nI (by omega) (by omega) c_2; omega
        rw [hr5] at hl
        refine lv_iload hx hb dX3_hashBytes_92 (lv_at hl 0 rfl) ?_
        refine lv_iload hx hb dX3_hashBytes_94 (lv_at hl 2 rfl) ?_
        refine vp_callSi (va_Run.run (va_runS (As := [.int (nI (wN d (4 * (len / 4)) (len % 4)))]) (rest := [.int (m_blk d x (len / 4))]) ⟨hx, hb, hml, hown, hts⟩ (met_mk l D (nI (wN d (4 * (len / 4)) (len % 4)))) (va_cwS 1 hts (lw_S q340 q210 q9 q211) rfl rfl rfl (by decide +kernel) ⟨Nat.le_of_ble_eq_true rfl, Nat.le_of_ble_eq_true rfl⟩) (hk_CS (hP.sub (ws' := []) [] rfl) (hK.sub (tys' := []) [] rfl) hN) rfl rfl hl.1 rfl (lv_room (Nat.le_of_ble_eq_true rfl)) dX3_hashBytes_96 ⟨Nat.le_of_ble_eq_true rfl, Nat.le_of_ble_eq_true rfl⟩)) (fun r_3 hr_3 => ?_)
        obtain rfl : r_3 = m_k (nI (wN d (4 * (len / 4)) (len % 4))) := hr_3
        refine lv_ixor hx hb dX3_hashBytes_99 ?_
        refine lv_istore (lv' := [(4, .int ((m_blk d x (len / 4)) ^^^ (m_k (nI (wN d (4 * (len / 4)) (len % 4)))))), (5, .int (nI (4 * (len / 4) + (len % 4)))), (6, .int (nI (wN d (4 * (len / 4)) (len % 4)))), (7, .int (nI (8 * (len % 4)))), (0, .ref h0), (1, .ref h1), (2, .int (nI off)), (3, .int (nI len))]) hx hb dX3_hashBytes_100 hl (by decide) rfl (fun ls hl => ?_)
        refine lv_iload hx hb dX3_hashBytes_102 (lv_at hl 0 rfl) ?_
        refine lv_iload_n hx hb dX3_hashBytes_104 rfl (lv_at hl 7 rfl) ?_
        refine hk_cr (wr := [(h0, .inr (2, [.int x, .int v1])), (h1, .inl (c1, n1, .inl a1))]) (va_runS (As := [.int ((m_blk d x (len / 4)) ^^^ (m_k (nI (wN d (4 * (len / 4)) (len % 4))))), .int (nI len)]) (rest := []) ⟨hx, hb, hml, hown, hts⟩ (met_fm l D s.heap.size (m_blk d x (len / 4) ^^^ m_k (nI (wN d (4 * (len / 4)) (len % 4)))) (nI len)) (va_cwS 2 hts (lw_S q345 q304 q9 q305) rfl rfl rfl (by decide +kernel) ⟨Nat.le_of_ble_eq_true rfl, Nat.le_of_ble_eq_true rfl⟩) (hk_BS (hP.sub (ws' := []) [] rfl) (hK.sub (tys' := []) [] rfl) hN (hD.sub (ws' := []) [] (by decide) rfl)) rfl rfl hl.1 rfl (lv_room (Nat.le_of_ble_eq_true rfl)) dX3_hashBytes_105 ⟨Nat.le_of_ble_eq_true rfl, Nat.le_of_ble_eq_true rfl⟩) hP hD hK hS hA [] [0, 1] rfl rfl (by decide) (by decide) (fun u_6 q0 H locs h_5 hP hD hK hS => ?_)
        have hP : va_P D vwCl [(h0, .inr (2, [.int x, .int v1])), (h1, .inl (c1, n1, .inl a1)), (q0, .inr (3, [.int (m_hash d len x)]))] H := hP
        have hD : va_D A [(h0, .inr (2, [.int x, .int v1])), (h1, .inl (c1, n1, .inl a1)), (q0, .inr (3, [.int (m_hash d len x)]))] := hD
        have hK : va_K D vwCl [(c1, .byte)] s := hK
        rw [hd] at hP hD
        have hP9 := hP.sub (ws' := [(h0, .inr (2, [.int x, .int v1])), (h1, .inl (c1, n1, .inl a1)), (q0, .inr (3, [.int (m_hash (fun j => uN (a1 (off + j))) len x)]))]) [0, 1, 2] rfl
        have hD9 := hD.sub (ws' := [(h0, .inr (2, [.int x, .int v1])), (h1, .inl (c1, n1, .inl a1)), (q0, .inr (3, [.int (m_hash (fun j => uN (a1 (off + j))) len x)]))]) [0, 1, 2] (by decide) rfl
        have hK9 := hK.sub (tys' := [(c1, .byte)]) [0] rfl
        refine W.widen (k := 1) (n := 1) (by omega) (by omega) ?_
        exact W.aret (v := .ref q0) hx hb hr (Or.inl ⟨_, rfl⟩) (Or.inr ⟨_, rfl⟩) (fun t ht hW => ⟨⟨(), _, rfl, trivial, hk_at ht hW hP9 hK9 hD9⟩, hS.F ht⟩) hS.2.2 dX3_hashBytes_108
      · have hr5 : r < len % 4 := by have h9 := lt_of_nle (by omega) (by omega) c_2; omega
        refine lv_iload hx hb dX3_hashBytes_66 (lv_at hl 2 rfl) ?_
        refine lv_aload_n hx hb dX3_hashBytes_68 rfl (lv_at hl 5 rfl) ?_
        refine lv_iload_n hx hb dX3_hashBytes_69 rfl (lv_at hl 6 rfl) ?_
        refine lv_iload hx hb dX3_hashBytes_70 (lv_at hl 1 rfl) ?_
        refine lv_iadd hx hb dX3_hashBytes_72 ?_
        refine hk_ti (y := nI (off + (4 * (len / 4) + r))) (nI_add _ _) ?_
        refine va_bald hx hb hK hP 1 0 rfl rfl (vp_in_nI (by omega) (by omega)) dX3_hashBytes_73 ?_
        refine hk_ti (y := a1 (off + (4 * (len / 4) + r))) (by rw [nI_clamp (by omega)]) ?_
        refine vp_callSi (va_Run.run (va_runS (As := [.int (a1 (off + (4 * (len / 4) + r)))]) (rest := [.int (nI (wN d (4 * (len / 4)) r))]) ⟨hx, hb, hml, hown, hts⟩ (met_tu l D (a1 (off + (4 * (len / 4) + r)))) (va_cwS 1 hts (lw_S q342 q343 q18 q344) rfl rfl rfl (by decide +kernel) ⟨Nat.le_of_ble_eq_true rfl, Nat.le_of_ble_eq_true rfl⟩) (hk_CS (hP.sub (ws' := []) [] rfl) (hK.sub (tys' := []) [] rfl) hN) rfl rfl hl.1 rfl (lv_room (Nat.le_of_ble_eq_true rfl)) dX3_hashBytes_74 ⟨Nat.le_of_ble_eq_true rfl, Nat.le_of_ble_eq_true rfl⟩)) (fun r_7 hr_7 => ?_)
        obtain rfl : r_7 = a1 (off + (4 * (len / 4) + r)) &&& 255 := hr_7
        refine lv_iload hx hb dX3_hashBytes_77 (lv_at hl 3 rfl) ?_
        refine lv_ishl hx hb dX3_hashBytes_79 ?_
        refine lv_ixor hx hb dX3_hashBytes_80 ?_
        refine hk_ti (y := nI (wN d (4 * (len / 4)) (r + 1))) (xor_step d (4 * (len / 4)) r (by omega) _ (by rw [hd])) ?_
        refine lv_istore (lv' := [(6, .int (nI (wN d (4 * (len / 4)) (r + 1)))), (4, .int (m_blk d x (len / 4))), (5, .int (nI (4 * (len / 4) + r))), (7, .int (nI (8 * r))), (0, .ref h0), (1, .ref h1), (2, .int (nI off)), (3, .int (nI len))]) hx hb dX3_hashBytes_81 hl (by decide) rfl (fun ls hl => ?_)
        refine lv_iinc (v := nI (4 * (len / 4) + (r + 1))) (lv' := [(5, .int (nI (4 * (len / 4) + (r + 1)))), (6, .int (nI (wN d (4 * (len / 4)) (r + 1)))), (4, .int (m_blk d x (len / 4))), (7, .int (nI (8 * r))), (0, .ref h0), (1, .ref h1), (2, .int (nI off)), (3, .int (nI len))]) hx hb dX3_hashBytes_83 hl (k := 2) rfl (nI_o1 _) (by decide) rfl (fun ls hl => ?_)
        refine lv_iinc (v := nI (8 * (r + 1))) (lv' := [(7, .int (nI (8 * (r + 1)))), (5, .int (nI (4 * (len / 4) + (r + 1)))), (6, .int (nI (wN d (4 * (len / 4)) (r + 1)))), (4, .int (m_blk d x (len / 4))), (0, .ref h0), (1, .ref h1), (2, .int (nI off)), (3, .int (nI len))]) hx hb dX3_hashBytes_86 hl (k := 3) rfl (nI_o8 _) (by decide) rfl (fun ls hl => ?_)
        refine lv_goto (tgt := 60) hx hb dX3_hashBytes_89 (by decide) ?_
        have hl := lv_sub hl (l' := [(4, .int (m_blk d x (len / 4))), (5, .int (nI (4 * (len / 4) + (r + 1)))), (6, .int (nI (wN d (4 * (len / 4)) (r + 1)))), (7, .int (nI (8 * (r + 1)))), (0, .ref h0), (1, .ref h1), (2, .int (nI off)), (3, .int (nI len))]) [3, 1, 2, 0, 4, 5, 6, 7] rfl
        exact ih (r + 1) (by omega) (by omega) ls hl
  have loop1 : ∀ (n : Nat) (b : Nat), b ≤ len / 4 → len / 4 + 1 ≤ b + n → ∀ (ls : Array Slot), lv_has ls 8 [(4, .int (m_blk d x b)), (5, .int (nI (4 * b))), (0, .ref h0), (1, .ref h1), (2, .int (nI off)), (3, .int (nI len))] → W p l e (headSpec (ws_ yX3_hashBytes cX3_hashBytes 8 (some (.object "HashCode"))) ({ frames := 5, cells := 1, slots := 1, locals := 94 })).room s m ([.ref h0, .ref h1, .int (nI off), .int (nI len)] : List Value).toArray below meth c s.heap [] 0 0 (MQ below (va_Qr (S := Unit) (fun _ => True) (fun u q => hk_E D ([(h0, .inr (2, [.int x, .int v1])), (h1, .inl (c1, n1, .inl a1)), (q, .inr (3, [.int (m_hash (fun j => uN (a1 (off + j))) len x)]))]) ([(c1, .byte)]) A) A) ([.ref h0, .ref h1, .int (nI off), .int (nI len)] : List Value).toArray s 1 1 A) (F0 m 18 ls []) := by
    intro n
    induction n with
    | zero =>
      intro b hb4 hfu
      exact absurd hfu (by omega)
    | succ n ih =>
      intro b hb4 hfu ls hl
      refine lv_iload hx hb dX3_hashBytes_18 (lv_at hl 1 rfl) ?_
      refine lv_iconst (v := 4) hx hb dX3_hashBytes_20 (by decide) ?_
      refine lv_iadd hx hb dX3_hashBytes_21 ?_
      refine hk_ti (y := nI (4 * b + 4)) (nI_inc (4 * b) 4 rfl) ?_
      refine lv_iload_n hx hb dX3_hashBytes_22 rfl (lv_at hl 5 rfl) ?_
      refine lv_icmp_gt (tgt := 54) hx hb dX3_hashBytes_23 (by decide) (fun c_8 => ?_) (fun c_8 => ?_)
      · have hb5 : b = len / 4 := by have h9 := lt_of_nI (by omega) (by omega) c_8; omega
        rw [hb5] at hl
        refine lv_iconst (v := 0) hx hb dX3_hashBytes_54 (by decide) ?_
        refine lv_istore (lv' := [(6, .int 0), (4, .int (m_blk d x (len / 4))), (5, .int (nI (4 * (len / 4)))), (0, .ref h0), (1, .ref h1), (2, .int (nI off)), (3, .int (nI len))]) hx hb dX3_hashBytes_55 hl (by decide) rfl (fun ls hl => ?_)
        refine lv_iconst (v := 0) hx hb dX3_hashBytes_57 (by decide) ?_
        refine lv_istore (lv' := [(7, .int 0), (6, .int 0), (4, .int (m_blk d x (len / 4))), (5, .int (nI (4 * (len / 4)))), (0, .ref h0), (1, .ref h1), (2, .int (nI off)), (3, .int (nI len))]) hx hb dX3_hashBytes_58 hl (by decide) rfl (fun ls hl => ?_)
        have hl := lv_sub hl (l' := [(4, .int (m_blk d x (len / 4))), (5, .int (nI (4 * (len / 4)))), (6, .int 0), (7, .int 0), (0, .ref h0), (1, .ref h1), (2, .int (nI off)), (3, .int (nI len))]) [2, 3, 1, 0, 4, 5, 6, 7] rfl
        exact loop2 (len % 4 + 1) 0 (Nat.zero_le _) (by omega) ls hl
      · have hb5 : b < len / 4 := by have h9 := le_of_nlt (by omega) (by omega) c_8; omega
        refine lv_aload_n hx hb dX3_hashBytes_26 rfl (lv_at hl 3 rfl) ?_
        refine lv_iload_n hx hb dX3_hashBytes_27 rfl (lv_at hl 4 rfl) ?_
        refine lv_iload hx hb dX3_hashBytes_28 (lv_at hl 1 rfl) ?_
        refine lv_iadd hx hb dX3_hashBytes_30 ?_
        refine hk_ti (y := nI (off + 4 * b)) (nI_add _ _) ?_
        refine vp_callSi (va_Run.run (va_runS (As := [.ref h1, .int (nI (off + 4 * b))]) (rest := []) ⟨hx, hb, hml, hown, hts⟩ (met_gi l D h1 n1 c1 a1 (off + 4 * b) (by omega) (by omega)) (va_cwS 2 hts (lw_S q339 q199 q9 q200) rfl rfl rfl (by decide +kernel) ⟨Nat.le_of_ble_eq_true rfl, Nat.le_of_ble_eq_true rfl⟩) (hk_CS (hP.sub (ws' := [(h1, .inl (c1, n1, .inl a1))]) [1] rfl) (hK.sub (tys' := [(c1, .byte)]) [0] rfl) hN) rfl rfl hl.1 rfl (lv_room (Nat.le_of_ble_eq_true rfl)) dX3_hashBytes_31 ⟨Nat.le_of_ble_eq_true rfl, Nat.le_of_ble_eq_true rfl⟩)) (fun r_9 hr_9 => ?_)
        obtain rfl : r_9 = nI (wN (fun j => uN (a1 j)) (off + 4 * b) 4) := hr_9
        refine hk_ti (y := nI (wN d (4 * b) 4)) (by rw [wN_congr (d' := d) (i' := 4 * b) 4 (fun j _ => by rw [hd, Nat.add_assoc])]) ?_
        refine vp_callSi (va_Run.run (va_runS (As := [.int (nI (wN d (4 * b) 4))]) (rest := []) ⟨hx, hb, hml, hown, hts⟩ (met_mk l D (nI (wN d (4 * b) 4))) (va_cwS 1 hts (lw_S q340 q210 q9 q211) rfl rfl rfl (by decide +kernel) ⟨Nat.le_of_ble_eq_true rfl, Nat.le_of_ble_eq_true rfl⟩) (hk_CS (hP.sub (ws' := []) [] rfl) (hK.sub (tys' := []) [] rfl) hN) rfl rfl hl.1 rfl (lv_room (Nat.le_of_ble_eq_true rfl)) dX3_hashBytes_34 ⟨Nat.le_of_ble_eq_true rfl, Nat.le_of_ble_eq_true rfl⟩)) (fun r_10 hr_10 => ?_)
        obtain rfl : r_10 = m_k (nI (wN d (4 * b) 4)) := hr_10
        refine lv_istore (lv' := [(6, .int (m_k (nI (wN d (4 * b) 4)))), (4, .int (m_blk d x b)), (5, .int (nI (4 * b))), (0, .ref h0), (1, .ref h1), (2, .int (nI off)), (3, .int (nI len))]) hx hb dX3_hashBytes_37 hl (by decide) rfl (fun ls hl => ?_)
        refine lv_iload hx hb dX3_hashBytes_39 (lv_at hl 1 rfl) ?_
        refine lv_iload hx hb dX3_hashBytes_41 (lv_at hl 0 rfl) ?_
        refine vp_callSi (va_Run.run (va_runS (As := [.int (m_blk d x b), .int (m_k (nI (wN d (4 * b) 4)))]) (rest := []) ⟨hx, hb, hml, hown, hts⟩ (met_mh l D (m_blk d x b) (m_k (nI (wN d (4 * b) 4)))) (va_cwS 2 hts (lw_S q341 q218 q9 q219) rfl rfl rfl (by decide +kernel) ⟨Nat.le_of_ble_eq_true rfl, Nat.le_of_ble_eq_true rfl⟩) (hk_CS (hP.sub (ws' := []) [] rfl) (hK.sub (tys' := []) [] rfl) hN) rfl rfl hl.1 rfl (lv_room (Nat.le_of_ble_eq_true rfl)) dX3_hashBytes_43 ⟨Nat.le_of_ble_eq_true rfl, Nat.le_of_ble_eq_true rfl⟩)) (fun r_11 hr_11 => ?_)
        obtain rfl : r_11 = m_h (m_blk d x b) (m_k (nI (wN d (4 * b) 4))) := hr_11
        refine hk_ti (y := m_blk d x (b + 1)) (rfl) ?_
        refine lv_istore (lv' := [(4, .int (m_blk d x (b + 1))), (6, .int (m_k (nI (wN d (4 * b) 4)))), (5, .int (nI (4 * b))), (0, .ref h0), (1, .ref h1), (2, .int (nI off)), (3, .int (nI len))]) hx hb dX3_hashBytes_46 hl (by decide) rfl (fun ls hl => ?_)
        refine lv_iinc (v := nI (4 * (b + 1))) (lv' := [(5, .int (nI (4 * (b + 1)))), (4, .int (m_blk d x (b + 1))), (6, .int (m_k (nI (wN d (4 * b) 4)))), (0, .ref h0), (1, .ref h1), (2, .int (nI off)), (3, .int (nI len))]) hx hb dX3_hashBytes_48 hl (k := 2) rfl (nI_o4 _) (by decide) rfl (fun ls hl => ?_)
        refine lv_goto (tgt := 18) hx hb dX3_hashBytes_51 (by decide) ?_
        have hl := lv_sub hl (l' := [(4, .int (m_blk d x (b + 1))), (5, .int (nI (4 * (b + 1)))), (0, .ref h0), (1, .ref h1), (2, .int (nI off)), (3, .int (nI len))]) [1, 0, 3, 4, 5, 6] rfl
        exact ih (b + 1) (by omega) (by omega) ls hl
  have hl := lv_sub hl (l' := [(4, .int x), (5, .int 0), (0, .ref h0), (1, .ref h1), (2, .int (nI off)), (3, .int (nI len))]) [1, 0, 2, 3, 4, 5] rfl
  exact loop1 (len / 4 + 1) 0 (Nat.zero_le _) (by omega) ls hl
end
section
/-! THE HASHER -/
set_option maxHeartbeats 4000000 in
set_option maxRecDepth 100000 in
/-- update(n, v): n bytes of v, the lowest first -/
theorem met_up (l : Launch) (D : va_G) (sz : Nat) (h0 k : Nat) (seed : Int32) (d : Nat → Nat) (h1 : Int32) (buf : Int64) (sh dn : Int32) (n w : Nat) (v : Int64) (hk : k + n ≤ 2 ^ 20) (hn4 : n ≤ 4) (hv : uL v % 2 ^ 32 = w) (hw : w < 256 ^ n) (hH : HS seed d k h1 buf sh) : Met l yX9_update (ws_ yX9_update cX9_update 4 none) ({ frames := 2, cells := 0, slots := 0, locals := 42 }) (va_Pc [.ref h0, .int (nI n), .long v] (hk_B D [(h0, .inr (4, [.int h1, .long buf, .int sh, .int (nI k), .int dn]))] [] sz)) (va_Qv (S := (Int32 × Int64 × Int32)) (fun u => HS seed (app d k (gL w)) (k + n) u.1 u.2.1 u.2.2) (fun u => hk_E D ([(h0, .inr (4, [.int u.1, .long u.2.1, .int u.2.2, .int (nI (k + n)), .int dn]))]) ([]) (va_A [(h0, .inr (4, [.int h1, .long buf, .int sh, .int (nI k), .int dn]))] sz)) (va_A [(h0, .inr (4, [.int h1, .long buf, .int sh, .int (nI k), .int dn]))] sz)) 0 0 (va_A [(h0, .inr (4, [.int h1, .long buf, .int sh, .int (nI k), .int dn]))] sz) := by
  refine Met.ofW (cc := cX9_update) (maxL := 4) (ret := none) (by decide +kernel) rfl ?_
  intro p e s m args below meth c s₁ B hml hv
  obtain ⟨rfl, hsz, hP, hK, hD0, hN⟩ := hv
  have hx := B.exec
  have hb := B.bytes
  have hr := B.returns
  have hts := atoms_spec (ws := (ws_ yX9_update cX9_update 4 none)) B.pre
  have hts : ∀ w ∈ lw_all, w.before _ s = true := fun w h => hts w (List.mem_cons_of_mem _ h)
  have hown : s.vm.findClass RX9 = some m.cls := findClass_of_methodNamed B.named
  have hlocks := B.notSynchronized
  subst hsz
  have hD := hD0.self (sz := s.heap.size)
  generalize hAe : va_A [(h0, .inr (4, [.int h1, .long buf, .int sh, .int (nI k), .int dn]))] s.heap.size = A at hD ⊢
  have hA : ∀ q : Nat, s.heap.size ≤ q → A q := fun q h => by rw [← hAe]; exact Or.inr h
  have hS : va_S A s.heap s.heap [] := va_S.rf
  have hP : va_P D vwCl [(h0, .inr (4, [.int h1, .long buf, .int sh, .int (nI k), .int dn]))] s.heap := hP
  have hl := lv_entry ([.ref h0, .int (nI n), .long v]) (n := 4) (Nat.le_of_ble_eq_true rfl)
  rw [lg_entry_eq]
  generalize (lg_sl ([.ref h0, .int (nI n), .long v]) ++ List.replicate (4 - (lg_sl ([.ref h0, .int (nI n), .long v])).length) Slot.unset).toArray = ls at hl ⊢
  have hl : lv_has ls 4 [(0, .ref h0), (1, .int (nI n)), (2, .long v)] := hl
  refine lv_aload_n hx hb dX9_update_0 rfl (lv_at hl 0 rfl) ?_
  refine lv_dup hx hb dX9_update_1 rfl ?_
  refine va_get (D := D) (ci := 4) (v := .long buf) (C := RX9) (T := TX9) (N := 5) hx hb hts in_X9 hown hK hP 0 rfl rfl 1 (by decide) (hts _ q96) (fun _ h9 => h9) rfl dX9_update_2 ?_
  refine lv_lload_n hx hb dX9_update_5 rfl (lv_at hl 2 rfl) ?_
  refine lv_ldc2 hx hb hown (hts _ q208) dX9_update_6 ?_
  refine lv_land hx hb dX9_update_9 ?_
  refine lv_aload_n hx hb dX9_update_10 rfl (lv_at hl 0 rfl) ?_
  refine va_get (D := D) (ci := 4) (v := .int sh) (C := RX9) (T := TX9) (N := 5) hx hb hts in_X9 hown hK hP 0 rfl rfl 2 (by decide) (hts _ q97) (fun _ h9 => h9) rfl dX9_update_11 ?_
  refine lv_lshl (v := (v &&& 4294967295) <<< ((sh : Int32).toInt64 &&& 63)) hx hb dX9_update_14 rfl ?_
  refine lv_lor hx hb dX9_update_15 ?_
  refine hk_tl (y := up_b buf v sh) (rfl) ?_
  refine va_put (D := D) (ci := 4) (v := .long (up_b buf v sh)) (ty := .long) (C := RX9) (T := TX9) (N := 5) hx hb hts in_X9 tyX9 tyX9_ok nmX9 hown hK hP hD hS 0 rfl rfl 1 (by decide) (hts _ q96) (fun _ h9 => h9) rfl (by decide +kernel) rfl rfl (Nat.le_of_ble_eq_true rfl) dX9_update_16 (fun H locs hP hD hS => ?_)
  have hP : va_P D vwCl [(h0, .inr (4, [.int h1, .long (up_b buf v sh), .int sh, .int (nI k), .int dn]))] H := hP
  have hD : va_D A [(h0, .inr (4, [.int h1, .long (up_b buf v sh), .int sh, .int (nI k), .int dn]))] := hD
  refine lv_aload_n hx hb dX9_update_19 rfl (lv_at hl 0 rfl) ?_
  refine lv_dup hx hb dX9_update_20 rfl ?_
  refine va_get (D := D) (ci := 4) (v := .int sh) (C := RX9) (T := TX9) (N := 5) hx hb hts in_X9 hown hK hP 0 rfl rfl 2 (by decide) (hts _ q97) (fun _ h9 => h9) rfl dX9_update_21 ?_
  refine lv_iload_n hx hb dX9_update_24 rfl (lv_at hl 1 rfl) ?_
  refine lv_bipush (v := 8) hx hb dX9_update_25 (by decide) ?_
  refine lv_imul hx hb dX9_update_27 ?_
  refine lv_iadd hx hb dX9_update_28 ?_
  refine hk_ti (y := nI (8 * (k % 4 + n))) (by rw [hH.2.2, show (8 : Int32) = nI 8 from rfl, pk_mul, nI_add]; exact congrArg nI (by omega)) ?_
  refine va_put (D := D) (ci := 4) (v := .int (nI (8 * (k % 4 + n)))) (ty := .int) (C := RX9) (T := TX9) (N := 5) hx hb hts in_X9 tyX9 tyX9_ok nmX9 hown hK hP hD hS 0 rfl rfl 2 (by decide) (hts _ q97) (fun _ h9 => h9) rfl (by decide +kernel) rfl rfl (Nat.le_of_ble_eq_true rfl) dX9_update_29 (fun H locs hP hD hS => ?_)
  have hP : va_P D vwCl [(h0, .inr (4, [.int h1, .long (up_b buf v sh), .int (nI (8 * (k % 4 + n))), .int (nI k), .int dn]))] H := hP
  have hD : va_D A [(h0, .inr (4, [.int h1, .long (up_b buf v sh), .int (nI (8 * (k % 4 + n))), .int (nI k), .int dn]))] := hD
  refine lv_aload_n hx hb dX9_update_32 rfl (lv_at hl 0 rfl) ?_
  refine lv_dup hx hb dX9_update_33 rfl ?_
  refine va_get (D := D) (ci := 4) (v := .int (nI k)) (C := RX9) (T := TX9) (N := 5) hx hb hts in_X9 hown hK hP 0 rfl rfl 3 (by decide) (hts _ q98) (fun _ h9 => h9) rfl dX9_update_34 ?_
  refine lv_iload_n hx hb dX9_update_37 rfl (lv_at hl 1 rfl) ?_
  refine lv_iadd hx hb dX9_update_38 ?_
  refine hk_ti (y := nI (k + n)) (nI_add k n) ?_
  refine va_put (D := D) (ci := 4) (v := .int (nI (k + n))) (ty := .int) (C := RX9) (T := TX9) (N := 5) hx hb hts in_X9 tyX9 tyX9_ok nmX9 hown hK hP hD hS 0 rfl rfl 3 (by decide) (hts _ q98) (fun _ h9 => h9) rfl (by decide +kernel) rfl rfl (Nat.le_of_ble_eq_true rfl) dX9_update_39 (fun H locs hP hD hS => ?_)
  have hP : va_P D vwCl [(h0, .inr (4, [.int h1, .long (up_b buf v sh), .int (nI (8 * (k % 4 + n))), .int (nI (k + n)), .int dn]))] H := hP
  have hD : va_D A [(h0, .inr (4, [.int h1, .long (up_b buf v sh), .int (nI (8 * (k % 4 + n))), .int (nI (k + n)), .int dn]))] := hD
  refine lv_aload_n hx hb dX9_update_42 rfl (lv_at hl 0 rfl) ?_
  refine va_get (D := D) (ci := 4) (v := .int (nI (8 * (k % 4 + n)))) (C := RX9) (T := TX9) (N := 5) hx hb hts in_X9 hown hK hP 0 rfl rfl 2 (by decide) (hts _ q97) (fun _ h9 => h9) rfl dX9_update_43 ?_
  refine lv_bipush (v := 32) hx hb dX9_update_46 (by decide) ?_
  refine lv_icmp_lt (tgt := 92) hx hb dX9_update_48 (by decide) (fun c_1 => ?_) (fun c_1 => ?_)
  · have hlo : 8 * (k % 4 + n) < 32 := lt_of_nI (b := 32) (by omega) (by omega) c_1
    have hP9 := hP.sub (ws' := [(h0, .inr (4, [.int h1, .long (up_b buf v sh), .int (nI (8 * (k % 4 + n))), .int (nI (k + n)), .int dn]))]) [0] rfl
    have hD9 := hD.sub (ws' := [(h0, .inr (4, [.int h1, .long (up_b buf v sh), .int (nI (8 * (k % 4 + n))), .int (nI (k + n)), .int dn]))]) [0] (by decide) rfl
    have hK9 := hK.sub (tys' := []) [] rfl
    exact W.vret hx hb hr (fun t ht hW => ⟨⟨(h1, up_b buf v sh, nI (8 * (k % 4 + n))), rfl, HS_lo hH hv hw hn4 (by omega), hk_at ht hW hP9 hK9 hD9⟩, hS.F ht⟩) hS.2.2 dX9_update_92
  · have hhi : 32 ≤ 8 * (k % 4 + n) := le_of_nlt (b := 32) (by omega) (by omega) c_1
    refine lv_aload_n hx hb dX9_update_51 rfl (lv_at hl 0 rfl) ?_
    refine lv_aload_n hx hb dX9_update_52 rfl (lv_at hl 0 rfl) ?_
    refine va_get (D := D) (ci := 4) (v := .int h1) (C := RX9) (T := TX9) (N := 5) hx hb hts in_X9 hown hK hP 0 rfl rfl 0 (by decide) (hts _ q95) (fun _ h9 => h9) rfl dX9_update_53 ?_
    refine lv_aload_n hx hb dX9_update_56 rfl (lv_at hl 0 rfl) ?_
    refine va_get (D := D) (ci := 4) (v := .long (up_b buf v sh)) (C := RX9) (T := TX9) (N := 5) hx hb hts in_X9 hown hK hP 0 rfl rfl 1 (by decide) (hts _ q96) (fun _ h9 => h9) rfl dX9_update_57 ?_
    refine lv_l2i (v := (up_b buf v sh).toInt32) hx hb dX9_update_60 rfl ?_
    refine vp_callSi (va_Run.run (va_runSN (As := [.int ((up_b buf v sh).toInt32)]) (rest := [.int h1, .ref h0]) ⟨hx, hb, hml, hown, hts⟩ (met_mk l D (up_b buf v sh).toInt32) ⟨va_cnB 1 hts (lw_meth q211) rfl rfl rfl hN.2.1 (hts _ q9) (by decide +kernel) ⟨Nat.le_of_ble_eq_true rfl, Nat.le_of_ble_eq_true rfl⟩, hts _ q210, trivial⟩ (hk_CS (hP.sub (ws' := []) [] rfl) (hK.sub (tys' := []) [] rfl) hN) rfl rfl hl.1 rfl (lv_room (Nat.le_of_ble_eq_true rfl)) dX9_update_61 ⟨Nat.le_of_ble_eq_true rfl, Nat.le_of_ble_eq_true rfl⟩)) (fun r_2 hr_2 => ?_)
    obtain rfl : r_2 = m_k (up_b buf v sh).toInt32 := hr_2
    refine vp_callSi (va_Run.run (va_runSN (As := [.int h1, .int (m_k (up_b buf v sh).toInt32)]) (rest := [.ref h0]) ⟨hx, hb, hml, hown, hts⟩ (met_mh l D h1 (m_k (up_b buf v sh).toInt32)) ⟨va_cnB 2 hts (lw_meth q219) rfl rfl rfl hN.2.2.1 (hts _ q9) (by decide +kernel) ⟨Nat.le_of_ble_eq_true rfl, Nat.le_of_ble_eq_true rfl⟩, hts _ q218, trivial⟩ (hk_CS (hP.sub (ws' := []) [] rfl) (hK.sub (tys' := []) [] rfl) hN) rfl rfl hl.1 rfl (lv_room (Nat.le_of_ble_eq_true rfl)) dX9_update_64 ⟨Nat.le_of_ble_eq_true rfl, Nat.le_of_ble_eq_true rfl⟩)) (fun r_3 hr_3 => ?_)
    obtain rfl : r_3 = m_h h1 (m_k (up_b buf v sh).toInt32) := hr_3
    refine va_put (D := D) (ci := 4) (v := .int (m_h h1 (m_k (up_b buf v sh).toInt32))) (ty := .int) (C := RX9) (T := TX9) (N := 5) hx hb hts in_X9 tyX9 tyX9_ok nmX9 hown hK hP hD hS 0 rfl rfl 0 (by decide) (hts _ q95) (fun _ h9 => h9) rfl (by decide +kernel) rfl rfl (Nat.le_of_ble_eq_true rfl) dX9_update_67 (fun H locs hP hD hS => ?_)
    have hP : va_P D vwCl [(h0, .inr (4, [.int (m_h h1 (m_k (up_b buf v sh).toInt32)), .long (up_b buf v sh), .int (nI (8 * (k % 4 + n))), .int (nI (k + n)), .int dn]))] H := hP
    have hD : va_D A [(h0, .inr (4, [.int (m_h h1 (m_k (up_b buf v sh).toInt32)), .long (up_b buf v sh), .int (nI (8 * (k % 4 + n))), .int (nI (k + n)), .int dn]))] := hD
    refine lv_aload_n hx hb dX9_update_70 rfl (lv_at hl 0 rfl) ?_
    refine lv_dup hx hb dX9_update_71 rfl ?_
    refine va_get (D := D) (ci := 4) (v := .long (up_b buf v sh)) (C := RX9) (T := TX9) (N := 5) hx hb hts in_X9 hown hK hP 0 rfl rfl 1 (by decide) (hts _ q96) (fun _ h9 => h9) rfl dX9_update_72 ?_
    refine lv_bipush (v := 32) hx hb dX9_update_75 (by decide) ?_
    refine lv_lushr (v := ((up_b buf v sh).toUInt64 >>> ((32 : Int32).toInt64.toUInt64 &&& Int64.toUInt64 63)).toInt64) hx hb dX9_update_77 rfl ?_
    refine va_put (D := D) (ci := 4) (v := .long (((up_b buf v sh).toUInt64 >>> ((32 : Int32).toInt64.toUInt64 &&& Int64.toUInt64 63)).toInt64)) (ty := .long) (C := RX9) (T := TX9) (N := 5) hx hb hts in_X9 tyX9 tyX9_ok nmX9 hown hK hP hD hS 0 rfl rfl 1 (by decide) (hts _ q96) (fun _ h9 => h9) rfl (by decide +kernel) rfl rfl (Nat.le_of_ble_eq_true rfl) dX9_update_78 (fun H locs hP hD hS => ?_)
    have hP : va_P D vwCl [(h0, .inr (4, [.int (m_h h1 (m_k (up_b buf v sh).toInt32)), .long (((up_b buf v sh).toUInt64 >>> ((32 : Int32).toInt64.toUInt64 &&& Int64.toUInt64 63)).toInt64), .int (nI (8 * (k % 4 + n))), .int (nI (k + n)), .int dn]))] H := hP
    have hD : va_D A [(h0, .inr (4, [.int (m_h h1 (m_k (up_b buf v sh).toInt32)), .long (((up_b buf v sh).toUInt64 >>> ((32 : Int32).toInt64.toUInt64 &&& Int64.toUInt64 63)).toInt64), .int (nI (8 * (k % 4 + n))), .int (nI (k + n)), .int dn]))] := hD
    refine lv_aload_n hx hb dX9_update_81 rfl (lv_at hl 0 rfl) ?_
    refine lv_dup hx hb dX9_update_82 rfl ?_
    refine va_get (D := D) (ci := 4) (v := .int (nI (8 * (k % 4 + n)))) (C := RX9) (T := TX9) (N := 5) hx hb hts in_X9 hown hK hP 0 rfl rfl 2 (by decide) (hts _ q97) (fun _ h9 => h9) rfl dX9_update_83 ?_
    refine lv_bipush (v := 32) hx hb dX9_update_86 (by decide) ?_
    refine lv_isub hx hb dX9_update_88 ?_
    refine hk_ti (y := nI (8 * (k % 4 + n) - 32)) (pk_sub (b := 32) (by omega)) ?_
    refine va_put (D := D) (ci := 4) (v := .int (nI (8 * (k % 4 + n) - 32))) (ty := .int) (C := RX9) (T := TX9) (N := 5) hx hb hts in_X9 tyX9 tyX9_ok nmX9 hown hK hP hD hS 0 rfl rfl 2 (by decide) (hts _ q97) (fun _ h9 => h9) rfl (by decide +kernel) rfl rfl (Nat.le_of_ble_eq_true rfl) dX9_update_89 (fun H locs hP hD hS => ?_)
    have hP : va_P D vwCl [(h0, .inr (4, [.int (m_h h1 (m_k (up_b buf v sh).toInt32)), .long (((up_b buf v sh).toUInt64 >>> ((32 : Int32).toInt64.toUInt64 &&& Int64.toUInt64 63)).toInt64), .int (nI (8 * (k % 4 + n) - 32)), .int (nI (k + n)), .int dn]))] H := hP
    have hD : va_D A [(h0, .inr (4, [.int (m_h h1 (m_k (up_b buf v sh).toInt32)), .long (((up_b buf v sh).toUInt64 >>> ((32 : Int32).toInt64.toUInt64 &&& Int64.toUInt64 63)).toInt64), .int (nI (8 * (k % 4 + n) - 32)), .int (nI (k + n)), .int dn]))] := hD
    have hP9 := hP.sub (ws' := [(h0, .inr (4, [.int (m_h h1 (m_k (up_b buf v sh).toInt32)), .long (((up_b buf v sh).toUInt64 >>> ((32 : Int32).toInt64.toUInt64 &&& Int64.toUInt64 63)).toInt64), .int (nI (8 * (k % 4 + n) - 32)), .int (nI (k + n)), .int dn]))]) [0] rfl
    have hD9 := hD.sub (ws' := [(h0, .inr (4, [.int (m_h h1 (m_k (up_b buf v sh).toInt32)), .long (((up_b buf v sh).toUInt64 >>> ((32 : Int32).toInt64.toUInt64 &&& Int64.toUInt64 63)).toInt64), .int (nI (8 * (k % 4 + n) - 32)), .int (nI (k + n)), .int dn]))]) [0] (by decide) rfl
    have hK9 := hK.sub (tys' := []) [] rfl
    exact W.vret hx hb hr (fun t ht hW => ⟨⟨(m_h h1 (m_k (up_b buf v sh).toInt32), ((up_b buf v sh).toUInt64 >>> ((32 : Int32).toInt64.toUInt64 &&& Int64.toUInt64 63)).toInt64, nI (8 * (k % 4 + n) - 32)), rfl, HS_hi hH hv hw hn4 (by omega), hk_at ht hW hP9 hK9 hD9⟩, hS.F ht⟩) hS.2.2 dX9_update_92
set_option maxHeartbeats 4000000 in
set_option maxRecDepth 100000 in
/-- putByte -/
theorem met_pb (l : Launch) (D : va_G) (sz : Nat) (h0 k : Nat) (seed : Int32) (d : Nat → Nat) (h1 : Int32) (buf : Int64) (sh dn : Int32) (x : Int32) (hk : k + 1 ≤ 2 ^ 20) (hH : HS seed d k h1 buf sh) : Met l yX9_putByte (ws_ yX9_putByte cX9_putByte 2 (some (.object "Hasher"))) ({ frames := 3, cells := 0, slots := 0, locals := 65 }) (va_Pc [.ref h0, .int x] (hk_B D [(h0, .inr (4, [.int h1, .long buf, .int sh, .int (nI k), .int dn]))] [] sz)) (va_Qr (S := (Int32 × Int64 × Int32)) (fun u => HS seed (app d k (fun _ => uN x)) (k + 1) u.1 u.2.1 u.2.2) (fun u q => hk_E D ([(h0, .inr (4, [.int u.1, .long u.2.1, .int u.2.2, .int (nI (k + 1)), .int dn]))]) ([]) (va_A [(h0, .inr (4, [.int h1, .long buf, .int sh, .int (nI k), .int dn]))] sz)) (va_A [(h0, .inr (4, [.int h1, .long buf, .int sh, .int (nI k), .int dn]))] sz)) 0 0 (va_A [(h0, .inr (4, [.int h1, .long buf, .int sh, .int (nI k), .int dn]))] sz) := by
  refine Met.ofW (cc := cX9_putByte) (maxL := 2) (ret := (some (.object "Hasher"))) (by decide +kernel) rfl ?_
  intro p e s m args below meth c s₁ B hml hv
  obtain ⟨rfl, hsz, hP, hK, hD0, hN⟩ := hv
  have hx := B.exec
  have hb := B.bytes
  have hr := B.returns
  have hts := atoms_spec (ws := (ws_ yX9_putByte cX9_putByte 2 (some (.object "Hasher")))) B.pre
  have hts : ∀ w ∈ lw_all, w.before _ s = true := fun w h => hts w (List.mem_cons_of_mem _ h)
  have hown : s.vm.findClass RX9 = some m.cls := findClass_of_methodNamed B.named
  have hlocks := B.notSynchronized
  subst hsz
  have hD := hD0.self (sz := s.heap.size)
  generalize hAe : va_A [(h0, .inr (4, [.int h1, .long buf, .int sh, .int (nI k), .int dn]))] s.heap.size = A at hD ⊢
  have hA : ∀ q : Nat, s.heap.size ≤ q → A q := fun q h => by rw [← hAe]; exact Or.inr h
  have hS : va_S A s.heap s.heap [] := va_S.rf
  have hP : va_P D vwCl [(h0, .inr (4, [.int h1, .long buf, .int sh, .int (nI k), .int dn]))] s.heap := hP
  have hl := lv_entry ([.ref h0, .int x]) (n := 2) (Nat.le_of_ble_eq_true rfl)
  rw [lg_entry_eq]
  generalize (lg_sl ([.ref h0, .int x]) ++ List.replicate (2 - (lg_sl ([.ref h0, .int x])).length) Slot.unset).toArray = ls at hl ⊢
  have hl : lv_has ls 2 [(0, .ref h0), (1, .int x)] := hl
  refine lv_aload_n hx hb dX9_putByte_0 rfl (lv_at hl 0 rfl) ?_
  refine lv_iconst (v := 1) hx hb dX9_putByte_1 (by decide) ?_
  refine lv_iload_n hx hb dX9_putByte_2 rfl (lv_at hl 1 rfl) ?_
  refine lv_sipush (v := 255) hx hb dX9_putByte_3 (by decide) ?_
  refine lv_iand hx hb dX9_putByte_6 ?_
  refine lv_i2l (v := (x &&& 255 : Int32).toInt64) hx hb dX9_putByte_7 rfl ?_
  refine hk_cv (wr := []) (va_runV (As := [.int 1, .long ((x &&& 255 : Int32).toInt64)]) (rest := []) ⟨hx, hb, hml, hown, hts⟩ (met_up l D s.heap.size h0 (k) seed d h1 buf sh dn 1 (uN x % 256) ((x &&& 255).toInt64) (hk) (by decide) (by rw [uL_i2l, uN_and255]) (by omega) hH) (cwV 2 hts (lw_V q204 q206 qs3 q23 q207) rfl rfl rfl (by decide +kernel) ⟨Nat.le_of_ble_eq_true rfl, Nat.le_of_ble_eq_true rfl⟩) (hk_BV (hP.sub (ws' := [(h0, .inr (4, [.int h1, .long buf, .int sh, .int (nI k), .int dn]))]) [0] rfl) (hK.sub (tys' := []) [] rfl) hN (hD.sub (ws' := [(h0, .inr (4, [.int h1, .long buf, .int sh, .int (nI k), .int dn]))]) [0] (by decide) rfl) (va_recv hK hP (ci := 4) (q0 := 0) rfl rfl)) rfl rfl hl.1 rfl (lv_room (Nat.le_of_ble_eq_true rfl)) dX9_putByte_8 ⟨Nat.le_of_ble_eq_true rfl, Nat.le_of_ble_eq_true rfl⟩) hP hD hK hS hA [0] [] rfl rfl (by decide) (by decide) (fun u H locs hu hP hD hK hS => ?_)
  have hP : va_P D vwCl [(h0, .inr (4, [.int u.1, .long u.2.1, .int u.2.2, .int (nI (k + 1)), .int dn]))] H := hP
  have hD : va_D A [(h0, .inr (4, [.int u.1, .long u.2.1, .int u.2.2, .int (nI (k + 1)), .int dn]))] := hD
  have hK : va_K D vwCl [] s := hK
  refine lv_aload_n hx hb dX9_putByte_11 rfl (lv_at hl 0 rfl) ?_
  have hP9 := hP.sub (ws' := [(h0, .inr (4, [.int u.1, .long u.2.1, .int u.2.2, .int (nI (k + 1)), .int dn]))]) [0] rfl
  have hD9 := hD.sub (ws' := [(h0, .inr (4, [.int u.1, .long u.2.1, .int u.2.2, .int (nI (k + 1)), .int dn]))]) [0] (by decide) rfl
  have hK9 := hK.sub (tys' := []) [] rfl
  refine W.widen (k := 0) (n := 0) (by omega) (by omega) ?_
  exact W.aret (v := .ref h0) hx hb hr (Or.inl ⟨_, rfl⟩) (Or.inr ⟨_, rfl⟩) (fun t ht hW => ⟨⟨u, _, rfl, HS_app hu (fun j hj => gL_1 (uN x) j hj), hk_at ht hW hP9 hK9 hD9⟩, hS.F ht⟩) hS.2.2 dX9_putByte_12
set_option maxHeartbeats 4000000 in
set_option maxRecDepth 100000 in
/-- putInt -/
theorem met_pi (l : Launch) (D : va_G) (sz : Nat) (h0 k : Nat) (seed : Int32) (d : Nat → Nat) (h1 : Int32) (buf : Int64) (sh dn : Int32) (x : Int32) (hk : k + 4 ≤ 2 ^ 20) (hH : HS seed d k h1 buf sh) : Met l yX9_putInt (ws_ yX9_putInt cX9_putInt 2 (some (.object "Hasher"))) ({ frames := 3, cells := 0, slots := 0, locals := 65 }) (va_Pc [.ref h0, .int x] (hk_B D [(h0, .inr (4, [.int h1, .long buf, .int sh, .int (nI k), .int dn]))] [] sz)) (va_Qr (S := (Int32 × Int64 × Int32)) (fun u => HS seed (app d k (gL (uN x))) (k + 4) u.1 u.2.1 u.2.2) (fun u q => hk_E D ([(h0, .inr (4, [.int u.1, .long u.2.1, .int u.2.2, .int (nI (k + 4)), .int dn]))]) ([]) (va_A [(h0, .inr (4, [.int h1, .long buf, .int sh, .int (nI k), .int dn]))] sz)) (va_A [(h0, .inr (4, [.int h1, .long buf, .int sh, .int (nI k), .int dn]))] sz)) 0 0 (va_A [(h0, .inr (4, [.int h1, .long buf, .int sh, .int (nI k), .int dn]))] sz) := by
  refine Met.ofW (cc := cX9_putInt) (maxL := 2) (ret := (some (.object "Hasher"))) (by decide +kernel) rfl ?_
  intro p e s m args below meth c s₁ B hml hv
  obtain ⟨rfl, hsz, hP, hK, hD0, hN⟩ := hv
  have hx := B.exec
  have hb := B.bytes
  have hr := B.returns
  have hts := atoms_spec (ws := (ws_ yX9_putInt cX9_putInt 2 (some (.object "Hasher")))) B.pre
  have hts : ∀ w ∈ lw_all, w.before _ s = true := fun w h => hts w (List.mem_cons_of_mem _ h)
  have hown : s.vm.findClass RX9 = some m.cls := findClass_of_methodNamed B.named
  have hlocks := B.notSynchronized
  subst hsz
  have hD := hD0.self (sz := s.heap.size)
  generalize hAe : va_A [(h0, .inr (4, [.int h1, .long buf, .int sh, .int (nI k), .int dn]))] s.heap.size = A at hD ⊢
  have hA : ∀ q : Nat, s.heap.size ≤ q → A q := fun q h => by rw [← hAe]; exact Or.inr h
  have hS : va_S A s.heap s.heap [] := va_S.rf
  have hP : va_P D vwCl [(h0, .inr (4, [.int h1, .long buf, .int sh, .int (nI k), .int dn]))] s.heap := hP
  have hl := lv_entry ([.ref h0, .int x]) (n := 2) (Nat.le_of_ble_eq_true rfl)
  rw [lg_entry_eq]
  generalize (lg_sl ([.ref h0, .int x]) ++ List.replicate (2 - (lg_sl ([.ref h0, .int x])).length) Slot.unset).toArray = ls at hl ⊢
  have hl : lv_has ls 2 [(0, .ref h0), (1, .int x)] := hl
  refine lv_aload_n hx hb dX9_putInt_0 rfl (lv_at hl 0 rfl) ?_
  refine lv_iconst (v := 4) hx hb dX9_putInt_1 (by decide) ?_
  refine lv_iload_n hx hb dX9_putInt_2 rfl (lv_at hl 1 rfl) ?_
  refine lv_i2l (v := (x : Int32).toInt64) hx hb dX9_putInt_3 rfl ?_
  refine hk_cv (wr := []) (va_runV (As := [.int 4, .long ((x : Int32).toInt64)]) (rest := []) ⟨hx, hb, hml, hown, hts⟩ (met_up l D s.heap.size h0 (k) seed d h1 buf sh dn 4 (uN x) x.toInt64 (hk) (by decide) (uL_i2l x) (uN_lt x) hH) (cwV 2 hts (lw_V q204 q206 qs3 q23 q207) rfl rfl rfl (by decide +kernel) ⟨Nat.le_of_ble_eq_true rfl, Nat.le_of_ble_eq_true rfl⟩) (hk_BV (hP.sub (ws' := [(h0, .inr (4, [.int h1, .long buf, .int sh, .int (nI k), .int dn]))]) [0] rfl) (hK.sub (tys' := []) [] rfl) hN (hD.sub (ws' := [(h0, .inr (4, [.int h1, .long buf, .int sh, .int (nI k), .int dn]))]) [0] (by decide) rfl) (va_recv hK hP (ci := 4) (q0 := 0) rfl rfl)) rfl rfl hl.1 rfl (lv_room (Nat.le_of_ble_eq_true rfl)) dX9_putInt_4 ⟨Nat.le_of_ble_eq_true rfl, Nat.le_of_ble_eq_true rfl⟩) hP hD hK hS hA [0] [] rfl rfl (by decide) (by decide) (fun u H locs hu hP hD hK hS => ?_)
  have hP : va_P D vwCl [(h0, .inr (4, [.int u.1, .long u.2.1, .int u.2.2, .int (nI (k + 4)), .int dn]))] H := hP
  have hD : va_D A [(h0, .inr (4, [.int u.1, .long u.2.1, .int u.2.2, .int (nI (k + 4)), .int dn]))] := hD
  have hK : va_K D vwCl [] s := hK
  refine lv_aload_n hx hb dX9_putInt_7 rfl (lv_at hl 0 rfl) ?_
  have hP9 := hP.sub (ws' := [(h0, .inr (4, [.int u.1, .long u.2.1, .int u.2.2, .int (nI (k + 4)), .int dn]))]) [0] rfl
  have hD9 := hD.sub (ws' := [(h0, .inr (4, [.int u.1, .long u.2.1, .int u.2.2, .int (nI (k + 4)), .int dn]))]) [0] (by decide) rfl
  have hK9 := hK.sub (tys' := []) [] rfl
  refine W.widen (k := 0) (n := 0) (by omega) (by omega) ?_
  exact W.aret (v := .ref h0) hx hb hr (Or.inl ⟨_, rfl⟩) (Or.inr ⟨_, rfl⟩) (fun t ht hW => ⟨⟨u, _, rfl, hu, hk_at ht hW hP9 hK9 hD9⟩, hS.F ht⟩) hS.2.2 dX9_putInt_8
set_option maxHeartbeats 4000000 in
set_option maxRecDepth 100000 in
/-- putLong -/
theorem met_pl (l : Launch) (D : va_G) (sz : Nat) (h0 k : Nat) (seed : Int32) (d : Nat → Nat) (h1 : Int32) (buf : Int64) (sh dn : Int32) (x : Int64) (hk : k + 8 ≤ 2 ^ 20) (hH : HS seed d k h1 buf sh) : Met l yX9_putLong (ws_ yX9_putLong cX9_putLong 3 (some (.object "Hasher"))) ({ frames := 3, cells := 0, slots := 0, locals := 65 }) (va_Pc [.ref h0, .long x] (hk_B D [(h0, .inr (4, [.int h1, .long buf, .int sh, .int (nI k), .int dn]))] [] sz)) (va_Qr (S := (Int32 × Int64 × Int32)) (fun u => HS seed (app d k (gL (uL x))) (k + 8) u.1 u.2.1 u.2.2) (fun u q => hk_E D ([(h0, .inr (4, [.int u.1, .long u.2.1, .int u.2.2, .int (nI (k + 8)), .int dn]))]) ([]) (va_A [(h0, .inr (4, [.int h1, .long buf, .int sh, .int (nI k), .int dn]))] sz)) (va_A [(h0, .inr (4, [.int h1, .long buf, .int sh, .int (nI k), .int dn]))] sz)) 0 0 (va_A [(h0, .inr (4, [.int h1, .long buf, .int sh, .int (nI k), .int dn]))] sz) := by
  refine Met.ofW (cc := cX9_putLong) (maxL := 3) (ret := (some (.object "Hasher"))) (by decide +kernel) rfl ?_
  intro p e s m args below meth c s₁ B hml hv
  obtain ⟨rfl, hsz, hP, hK, hD0, hN⟩ := hv
  have hx := B.exec
  have hb := B.bytes
  have hr := B.returns
  have hts := atoms_spec (ws := (ws_ yX9_putLong cX9_putLong 3 (some (.object "Hasher")))) B.pre
  have hts : ∀ w ∈ lw_all, w.before _ s = true := fun w h => hts w (List.mem_cons_of_mem _ h)
  have hown : s.vm.findClass RX9 = some m.cls := findClass_of_methodNamed B.named
  have hlocks := B.notSynchronized
  subst hsz
  have hD := hD0.self (sz := s.heap.size)
  generalize hAe : va_A [(h0, .inr (4, [.int h1, .long buf, .int sh, .int (nI k), .int dn]))] s.heap.size = A at hD ⊢
  have hA : ∀ q : Nat, s.heap.size ≤ q → A q := fun q h => by rw [← hAe]; exact Or.inr h
  have hS : va_S A s.heap s.heap [] := va_S.rf
  have hP : va_P D vwCl [(h0, .inr (4, [.int h1, .long buf, .int sh, .int (nI k), .int dn]))] s.heap := hP
  have hl := lv_entry ([.ref h0, .long x]) (n := 3) (Nat.le_of_ble_eq_true rfl)
  rw [lg_entry_eq]
  generalize (lg_sl ([.ref h0, .long x]) ++ List.replicate (3 - (lg_sl ([.ref h0, .long x])).length) Slot.unset).toArray = ls at hl ⊢
  have hl : lv_has ls 3 [(0, .ref h0), (1, .long x)] := hl
  have hx64 := uL_lt x
  refine lv_aload_n hx hb dX9_putLong_0 rfl (lv_at hl 0 rfl) ?_
  refine lv_iconst (v := 4) hx hb dX9_putLong_1 (by decide) ?_
  refine lv_lload_n hx hb dX9_putLong_2 rfl (lv_at hl 1 rfl) ?_
  refine lv_l2i (v := x.toInt32) hx hb dX9_putLong_3 rfl ?_
  refine lv_i2l (v := (x.toInt32 : Int32).toInt64) hx hb dX9_putLong_4 rfl ?_
  refine hk_cv (wr := []) (va_runV (As := [.int 4, .long ((x.toInt32 : Int32).toInt64)]) (rest := []) ⟨hx, hb, hml, hown, hts⟩ (met_up l D s.heap.size h0 (k) seed d h1 buf sh dn 4 (uL x % 2 ^ 32) x.toInt32.toInt64 (by omega) (by decide) (by rw [uL_i2l, uN_l2i]) (Nat.mod_lt _ (by decide)) hH) (cwV 2 hts (lw_V q204 q206 qs3 q23 q207) rfl rfl rfl (by decide +kernel) ⟨Nat.le_of_ble_eq_true rfl, Nat.le_of_ble_eq_true rfl⟩) (hk_BV (hP.sub (ws' := [(h0, .inr (4, [.int h1, .long buf, .int sh, .int (nI k), .int dn]))]) [0] rfl) (hK.sub (tys' := []) [] rfl) hN (hD.sub (ws' := [(h0, .inr (4, [.int h1, .long buf, .int sh, .int (nI k), .int dn]))]) [0] (by decide) rfl) (va_recv hK hP (ci := 4) (q0 := 0) rfl rfl)) rfl rfl hl.1 rfl (lv_room (Nat.le_of_ble_eq_true rfl)) dX9_putLong_5 ⟨Nat.le_of_ble_eq_true rfl, Nat.le_of_ble_eq_true rfl⟩) hP hD hK hS hA [0] [] rfl rfl (by decide) (by decide) (fun u H locs hu hP hD hK hS => ?_)
  have hP : va_P D vwCl [(h0, .inr (4, [.int u.1, .long u.2.1, .int u.2.2, .int (nI (k + 4)), .int dn]))] H := hP
  have hD : va_D A [(h0, .inr (4, [.int u.1, .long u.2.1, .int u.2.2, .int (nI (k + 4)), .int dn]))] := hD
  have hK : va_K D vwCl [] s := hK
  refine lv_aload_n hx hb dX9_putLong_8 rfl (lv_at hl 0 rfl) ?_
  refine lv_iconst (v := 4) hx hb dX9_putLong_9 (by decide) ?_
  refine lv_lload_n hx hb dX9_putLong_10 rfl (lv_at hl 1 rfl) ?_
  refine lv_bipush (v := 32) hx hb dX9_putLong_11 (by decide) ?_
  refine lv_lushr (v := (x.toUInt64 >>> ((32 : Int32).toInt64.toUInt64 &&& Int64.toUInt64 63)).toInt64) hx hb dX9_putLong_13 rfl ?_
  refine lv_topl (fun v2 ev2 => ?_)
  have hv2 : uL v2 = uL x / 2 ^ 32 := by rw [ev2]; exact uL_ushr x (n := 32) (by decide)
  refine hk_cv (wr := []) (va_runV (As := [.int 4, .long v2]) (rest := []) ⟨hx, hb, hml, hown, hts⟩ (met_up l D H.size h0 (k + 4) seed (app d k (gL (uL x % 2 ^ 32))) u.1 u.2.1 u.2.2 dn 4 (uL x / 2 ^ 32) v2 (by omega) (by decide) (by rw [hv2]; omega) (by show _ < 2 ^ 32; omega) hu) (cwV 2 hts (lw_V q204 q206 qs3 q23 q207) rfl rfl rfl (by decide +kernel) ⟨Nat.le_of_ble_eq_true rfl, Nat.le_of_ble_eq_true rfl⟩) (hk_BV (hP.sub (ws' := [(h0, .inr (4, [.int u.1, .long u.2.1, .int u.2.2, .int (nI (k + 4)), .int dn]))]) [0] rfl) (hK.sub (tys' := []) [] rfl) hN (hD.sub (ws' := [(h0, .inr (4, [.int u.1, .long u.2.1, .int u.2.2, .int (nI (k + 4)), .int dn]))]) [0] (by decide) rfl) (va_recv hK hP (ci := 4) (q0 := 0) rfl rfl)) rfl rfl hl.1 rfl (lv_room (Nat.le_of_ble_eq_true rfl)) dX9_putLong_14 ⟨Nat.le_of_ble_eq_true rfl, Nat.le_of_ble_eq_true rfl⟩) hP hD hK hS hA [0] [] rfl rfl (by decide) (by decide) (fun u2 H locs hu2 hP hD hK hS => ?_)
  have hP : va_P D vwCl [(h0, .inr (4, [.int u2.1, .long u2.2.1, .int u2.2.2, .int (nI (k + 4 + 4)), .int dn]))] H := hP
  have hD : va_D A [(h0, .inr (4, [.int u2.1, .long u2.2.1, .int u2.2.2, .int (nI (k + 4 + 4)), .int dn]))] := hD
  have hK : va_K D vwCl [] s := hK
  rw [Nat.add_assoc k 4 4] at hP hD
  refine lv_aload_n hx hb dX9_putLong_17 rfl (lv_at hl 0 rfl) ?_
  have hP9 := hP.sub (ws' := [(h0, .inr (4, [.int u2.1, .long u2.2.1, .int u2.2.2, .int (nI (k + (4 + 4))), .int dn]))]) [0] rfl
  have hD9 := hD.sub (ws' := [(h0, .inr (4, [.int u2.1, .long u2.2.1, .int u2.2.2, .int (nI (k + (4 + 4))), .int dn]))]) [0] (by decide) rfl
  have hK9 := hK.sub (tys' := []) [] rfl
  refine W.widen (k := 0) (n := 0) (by omega) (by omega) ?_
  exact W.aret (v := .ref h0) hx hb hr (Or.inl ⟨_, rfl⟩) (Or.inr ⟨_, rfl⟩) (fun t ht hW => ⟨⟨u2, _, rfl, HS_two hu2 (fun j hj => gL_mod (uL x) (m := 4) hj) (fun j _ => by rw [← gL_div]), hk_at ht hW hP9 hK9 hD9⟩, hS.F ht⟩) hS.2.2 dX9_putLong_18
set_option maxHeartbeats 4000000 in
set_option maxRecDepth 100000 in
/-- hash -/
theorem met_hs (l : Launch) (D : va_G) (sz : Nat) (h0 k : Nat) (seed : Int32) (d : Nat → Nat) (h1 : Int32) (buf : Int64) (sh : Int32) (hH : HS seed d k h1 buf sh) : Met l yX9_hash (ws_ yX9_hash cX9_hash 1 (some (.object "HashCode"))) ({ frames := 5, cells := 1, slots := 1, locals := 94 }) (va_Pc [.ref h0] (hk_B D [(h0, .inr (4, [.int h1, .long buf, .int sh, .int (nI k), .int 0]))] [] sz)) (va_Qr (S := Unit) (fun _ => True) (fun u q => hk_E D ([(h0, .inr (4, [.int (h1 ^^^ m_k buf.toInt32), .long buf, .int sh, .int (nI k), .int 1])), (q, .inr (3, [.int (m_hash d k seed)]))]) ([]) (va_A [(h0, .inr (4, [.int h1, .long buf, .int sh, .int (nI k), .int 0]))] sz)) (va_A [(h0, .inr (4, [.int h1, .long buf, .int sh, .int (nI k), .int 0]))] sz)) 1 1 (va_A [(h0, .inr (4, [.int h1, .long buf, .int sh, .int (nI k), .int 0]))] sz) := by
  refine Met.ofW (cc := cX9_hash) (maxL := 1) (ret := (some (.object "HashCode"))) (by decide +kernel) rfl ?_
  intro p e s m args below meth c s₁ B hml hv
  obtain ⟨rfl, hsz, hP, hK, hD0, hN⟩ := hv
  have hx := B.exec
  have hb := B.bytes
  have hr := B.returns
  have hts := atoms_spec (ws := (ws_ yX9_hash cX9_hash 1 (some (.object "HashCode")))) B.pre
  have hts : ∀ w ∈ lw_all, w.before _ s = true := fun w h => hts w (List.mem_cons_of_mem _ h)
  have hown : s.vm.findClass RX9 = some m.cls := findClass_of_methodNamed B.named
  have hlocks := B.notSynchronized
  subst hsz
  have hD := hD0.self (sz := s.heap.size)
  generalize hAe : va_A [(h0, .inr (4, [.int h1, .long buf, .int sh, .int (nI k), .int 0]))] s.heap.size = A at hD ⊢
  have hA : ∀ q : Nat, s.heap.size ≤ q → A q := fun q h => by rw [← hAe]; exact Or.inr h
  have hS : va_S A s.heap s.heap [] := va_S.rf
  have hP : va_P D vwCl [(h0, .inr (4, [.int h1, .long buf, .int sh, .int (nI k), .int 0]))] s.heap := hP
  have hl := lv_entry ([.ref h0]) (n := 1) (Nat.le_of_ble_eq_true rfl)
  rw [lg_entry_eq]
  generalize (lg_sl ([.ref h0]) ++ List.replicate (1 - (lg_sl ([.ref h0])).length) Slot.unset).toArray = ls at hl ⊢
  have hl : lv_has ls 1 [(0, .ref h0)] := hl
  refine lv_aload_n hx hb dX9_hash_0 rfl (lv_at hl 0 rfl) ?_
  refine va_get (D := D) (ci := 4) (v := .int 0) (C := RX9) (T := TX9) (N := 5) hx hb hts in_X9 hown hK hP 0 rfl rfl 4 (by decide) (hts _ q99) (fun _ h9 => h9) rfl dX9_hash_1 ?_
  refine lv_if_ne (tgt := 11) hx hb dX9_hash_4 (by decide) (fun c_1 => absurd (rfl) c_1) (fun c_1 => ?_)
  refine lv_iconst (v := 1) hx hb dX9_hash_7 (by decide) ?_
  refine lv_goto (tgt := 12) hx hb dX9_hash_8 (by decide) ?_
  refine va_csv (va_Run.run (va_runS (As := [.int 1]) (rest := []) ⟨hx, hb, hml, hown, hts⟩ (met_cs l D ) (va_cwS 1 hts (lw_S q279 q280 q10 q281) rfl rfl rfl (by decide +kernel) ⟨Nat.le_of_ble_eq_true rfl, Nat.le_of_ble_eq_true rfl⟩) (hk_CS (hP.sub (ws' := []) [] rfl) (hK.sub (tys' := []) [] rfl) hN) rfl rfl hl.1 rfl (lv_room (Nat.le_of_ble_eq_true rfl)) dX9_hash_12 ⟨Nat.le_of_ble_eq_true rfl, Nat.le_of_ble_eq_true rfl⟩)) (fun hr_2 => ?_)
  refine lv_aload_n hx hb dX9_hash_15 rfl (lv_at hl 0 rfl) ?_
  refine lv_iconst (v := 1) hx hb dX9_hash_16 (by decide) ?_
  refine va_put (D := D) (ci := 4) (v := .int 1) (ty := .boolean) (C := RX9) (T := TX9) (N := 5) hx hb hts in_X9 tyX9 tyX9_ok nmX9 hown hK hP hD hS 0 rfl rfl 4 (by decide) (hts _ q99) (fun _ h9 => h9) rfl (by decide +kernel) rfl rfl (Nat.le_of_ble_eq_true rfl) dX9_hash_17 (fun H locs hP hD hS => ?_)
  have hP : va_P D vwCl [(h0, .inr (4, [.int h1, .long buf, .int sh, .int (nI k), .int 1]))] H := hP
  have hD : va_D A [(h0, .inr (4, [.int h1, .long buf, .int sh, .int (nI k), .int 1]))] := hD
  refine lv_aload_n hx hb dX9_hash_20 rfl (lv_at hl 0 rfl) ?_
  refine lv_dup hx hb dX9_hash_21 rfl ?_
  refine va_get (D := D) (ci := 4) (v := .int h1) (C := RX9) (T := TX9) (N := 5) hx hb hts in_X9 hown hK hP 0 rfl rfl 0 (by decide) (hts _ q95) (fun _ h9 => h9) rfl dX9_hash_22 ?_
  refine lv_aload_n hx hb dX9_hash_25 rfl (lv_at hl 0 rfl) ?_
  refine va_get (D := D) (ci := 4) (v := .long buf) (C := RX9) (T := TX9) (N := 5) hx hb hts in_X9 hown hK hP 0 rfl rfl 1 (by decide) (hts _ q96) (fun _ h9 => h9) rfl dX9_hash_26 ?_
  refine lv_l2i (v := buf.toInt32) hx hb dX9_hash_29 rfl ?_
  refine vp_callSi (va_Run.run (va_runSN (As := [.int buf.toInt32]) (rest := [.int h1, .ref h0]) ⟨hx, hb, hml, hown, hts⟩ (met_mk l D buf.toInt32) ⟨va_cnB 1 hts (lw_meth q211) rfl rfl rfl hN.2.1 (hts _ q9) (by decide +kernel) ⟨Nat.le_of_ble_eq_true rfl, Nat.le_of_ble_eq_true rfl⟩, hts _ q210, trivial⟩ (hk_CS (hP.sub (ws' := []) [] rfl) (hK.sub (tys' := []) [] rfl) hN) rfl rfl hl.1 rfl (lv_room (Nat.le_of_ble_eq_true rfl)) dX9_hash_30 ⟨Nat.le_of_ble_eq_true rfl, Nat.le_of_ble_eq_true rfl⟩)) (fun r_3 hr_3 => ?_)
  obtain rfl : r_3 = m_k buf.toInt32 := hr_3
  refine lv_ixor hx hb dX9_hash_33 ?_
  refine va_put (D := D) (ci := 4) (v := .int (h1 ^^^ (m_k buf.toInt32))) (ty := .int) (C := RX9) (T := TX9) (N := 5) hx hb hts in_X9 tyX9 tyX9_ok nmX9 hown hK hP hD hS 0 rfl rfl 0 (by decide) (hts _ q95) (fun _ h9 => h9) rfl (by decide +kernel) rfl rfl (Nat.le_of_ble_eq_true rfl) dX9_hash_34 (fun H locs hP hD hS => ?_)
  have hP : va_P D vwCl [(h0, .inr (4, [.int (h1 ^^^ (m_k buf.toInt32)), .long buf, .int sh, .int (nI k), .int 1]))] H := hP
  have hD : va_D A [(h0, .inr (4, [.int (h1 ^^^ (m_k buf.toInt32)), .long buf, .int sh, .int (nI k), .int 1]))] := hD
  refine lv_aload_n hx hb dX9_hash_37 rfl (lv_at hl 0 rfl) ?_
  refine va_get (D := D) (ci := 4) (v := .int (h1 ^^^ (m_k buf.toInt32))) (C := RX9) (T := TX9) (N := 5) hx hb hts in_X9 hown hK hP 0 rfl rfl 0 (by decide) (hts _ q95) (fun _ h9 => h9) rfl dX9_hash_38 ?_
  refine lv_aload_n hx hb dX9_hash_41 rfl (lv_at hl 0 rfl) ?_
  refine va_get (D := D) (ci := 4) (v := .int (nI k)) (C := RX9) (T := TX9) (N := 5) hx hb hts in_X9 hown hK hP 0 rfl rfl 3 (by decide) (hts _ q98) (fun _ h9 => h9) rfl dX9_hash_42 ?_
  refine hk_cr (wr := [(h0, .inr (4, [.int (h1 ^^^ (m_k buf.toInt32)), .long buf, .int sh, .int (nI k), .int 1]))]) (va_runSN (As := [.int (h1 ^^^ (m_k buf.toInt32)), .int (nI k)]) (rest := []) ⟨hx, hb, hml, hown, hts⟩ (met_fm l D H.size (h1 ^^^ m_k buf.toInt32) (nI k)) ⟨va_cnB 2 hts (lw_meth q305) rfl rfl rfl hN.2.2.2.1 (hts _ q9) (by decide +kernel) ⟨Nat.le_of_ble_eq_true rfl, Nat.le_of_ble_eq_true rfl⟩, hts _ q304, trivial⟩ (hk_BS (hP.sub (ws' := []) [] rfl) (hK.sub (tys' := []) [] rfl) hN (hD.sub (ws' := []) [] (by decide) rfl)) rfl rfl hl.1 rfl (lv_room (Nat.le_of_ble_eq_true rfl)) dX9_hash_45 ⟨Nat.le_of_ble_eq_true rfl, Nat.le_of_ble_eq_true rfl⟩) hP hD hK hS hA [] [0] rfl rfl (by decide) (by decide) (fun u_6 q0 H locs h_5 hP hD hK hS => ?_)
  have hP : va_P D vwCl [(h0, .inr (4, [.int (h1 ^^^ (m_k buf.toInt32)), .long buf, .int sh, .int (nI k), .int 1])), (q0, .inr (3, [.int (m_f (h1 ^^^ m_k buf.toInt32) (nI k))]))] H := hP
  have hD : va_D A [(h0, .inr (4, [.int (h1 ^^^ (m_k buf.toInt32)), .long buf, .int sh, .int (nI k), .int 1])), (q0, .inr (3, [.int (m_f (h1 ^^^ m_k buf.toInt32) (nI k))]))] := hD
  have hK : va_K D vwCl [] s := hK
  rw [HS_end hH] at hP hD
  have hP9 := hP.sub (ws' := [(h0, .inr (4, [.int (h1 ^^^ (m_k buf.toInt32)), .long buf, .int sh, .int (nI k), .int 1])), (q0, .inr (3, [.int (m_hash d k seed)]))]) [0, 1] rfl
  have hD9 := hD.sub (ws' := [(h0, .inr (4, [.int (h1 ^^^ (m_k buf.toInt32)), .long buf, .int sh, .int (nI k), .int 1])), (q0, .inr (3, [.int (m_hash d k seed)]))]) [0, 1] (by decide) rfl
  have hK9 := hK.sub (tys' := []) [] rfl
  refine W.widen (k := 1) (n := 1) (by omega) (by omega) ?_
  exact W.aret (v := .ref q0) hx hb hr (Or.inl ⟨_, rfl⟩) (Or.inr ⟨_, rfl⟩) (fun t ht hW => ⟨⟨(), _, rfl, trivial, hk_at ht hW hP9 hK9 hD9⟩, hS.F ht⟩) hS.2.2 dX9_hash_48
set_option maxHeartbeats 4000000 in
set_option maxRecDepth 100000 in
/-- putBytes -/
theorem met_ps (l : Launch) (D : va_G) (sz : Nat) (h0 k : Nat) (seed : Int32) (d : Nat → Nat) (h1 : Int32) (buf : Int64) (sh dn : Int32) (h9 n1 : Nat) (c1 : ClassId) (a1 : Nat → Int32) (off len : Nat) (hn : n1 < 2 ^ 20) (hol : off + len ≤ n1) (hk : k + len ≤ 2 ^ 20) (hH : HS seed d k h1 buf sh) : Met l yX9_putBytes (ws_ yX9_putBytes cX9_putBytes 5 (some (.object "Hasher"))) ({ frames := 4, cells := 0, slots := 0, locals := 86 }) (va_Pc [.ref h0, .ref h9, .int (nI off), .int (nI len)] (hk_B D [(h0, .inr (4, [.int h1, .long buf, .int sh, .int (nI k), .int dn])), (h9, .inl (c1, n1, .inl a1))] [(c1, .byte)] sz)) (va_Qr (S := (Int32 × Int64 × Int32)) (fun u => HS seed (app d k (fun j => uN (a1 (off + j)))) (k + len) u.1 u.2.1 u.2.2) (fun u q => hk_E D ([(h0, .inr (4, [.int u.1, .long u.2.1, .int u.2.2, .int (nI (k + len)), .int dn])), (h9, .inl (c1, n1, .inl a1))]) ([(c1, .byte)]) (va_A [(h0, .inr (4, [.int h1, .long buf, .int sh, .int (nI k), .int dn])), (h9, .inl (c1, n1, .inl a1))] sz)) (va_A [(h0, .inr (4, [.int h1, .long buf, .int sh, .int (nI k), .int dn])), (h9, .inl (c1, n1, .inl a1))] sz)) 0 0 (va_A [(h0, .inr (4, [.int h1, .long buf, .int sh, .int (nI k), .int dn])), (h9, .inl (c1, n1, .inl a1))] sz) := by
  refine Met.ofW (cc := cX9_putBytes) (maxL := 5) (ret := (some (.object "Hasher"))) (by decide +kernel) rfl ?_
  intro p e s m args below meth c s₁ B hml hv
  obtain ⟨rfl, hsz, hP, hK, hD0, hN⟩ := hv
  have hx := B.exec
  have hb := B.bytes
  have hr := B.returns
  have hts := atoms_spec (ws := (ws_ yX9_putBytes cX9_putBytes 5 (some (.object "Hasher")))) B.pre
  have hts : ∀ w ∈ lw_all, w.before _ s = true := fun w h => hts w (List.mem_cons_of_mem _ h)
  have hown : s.vm.findClass RX9 = some m.cls := findClass_of_methodNamed B.named
  have hlocks := B.notSynchronized
  subst hsz
  have hD := hD0.self (sz := s.heap.size)
  generalize hAe : va_A [(h0, .inr (4, [.int h1, .long buf, .int sh, .int (nI k), .int dn])), (h9, .inl (c1, n1, .inl a1))] s.heap.size = A at hD ⊢
  have hA : ∀ q : Nat, s.heap.size ≤ q → A q := fun q h => by rw [← hAe]; exact Or.inr h
  have hS : va_S A s.heap s.heap [] := va_S.rf
  have hP : va_P D vwCl [(h0, .inr (4, [.int h1, .long buf, .int sh, .int (nI k), .int dn])), (h9, .inl (c1, n1, .inl a1))] s.heap := hP
  have hl := lv_entry ([.ref h0, .ref h9, .int (nI off), .int (nI len)]) (n := 5) (Nat.le_of_ble_eq_true rfl)
  rw [lg_entry_eq]
  generalize (lg_sl ([.ref h0, .ref h9, .int (nI off), .int (nI len)]) ++ List.replicate (5 - (lg_sl ([.ref h0, .ref h9, .int (nI off), .int (nI len)])).length) Slot.unset).toArray = ls at hl ⊢
  have hl : lv_has ls 5 [(0, .ref h0), (1, .ref h9), (2, .int (nI off)), (3, .int (nI len))] := hl
  obtain ⟨g, hg⟩ : ∃ g : Nat → Nat, g = (fun j => uN (a1 (off + j))) := ⟨_, rfl⟩
  refine lv_iload_n hx hb dX9_putBytes_0 rfl (lv_at hl 2 rfl) ?_
  refine lv_iload_n hx hb dX9_putBytes_1 rfl (lv_at hl 2 rfl) ?_
  refine lv_iload_n hx hb dX9_putBytes_2 rfl (lv_at hl 3 rfl) ?_
  refine lv_iadd hx hb dX9_putBytes_3 ?_
  refine hk_ti (y := nI (off + len)) (nI_add off len) ?_
  refine lv_aload_n hx hb dX9_putBytes_4 rfl (lv_at hl 1 rfl) ?_
  refine va_alen (v := nI n1) hx hb hK hP 1 0 rfl rfl rfl dX9_putBytes_5 ?_
  refine va_csv (va_Run.run (va_runS (As := [.int (nI off), .int (nI (off + len)), .int (nI n1)]) (rest := []) ⟨hx, hb, hml, hown, hts⟩ (met_cp l D off (off + len) n1 (by omega) hol (by omega)) (va_cwS 3 hts (lw_S q129 q130 q10 q131) rfl rfl rfl (by decide +kernel) ⟨Nat.le_of_ble_eq_true rfl, Nat.le_of_ble_eq_true rfl⟩) (hk_CS (hP.sub (ws' := []) [] rfl) (hK.sub (tys' := []) [] rfl) hN) rfl rfl hl.1 rfl (lv_room (Nat.le_of_ble_eq_true rfl)) dX9_putBytes_6 ⟨Nat.le_of_ble_eq_true rfl, Nat.le_of_ble_eq_true rfl⟩)) (fun hr_1 => ?_)
  refine lv_iconst (v := 0) hx hb dX9_putBytes_9 (by decide) ?_
  refine lv_istore (lv' := [(4, .int 0), (0, .ref h0), (1, .ref h9), (2, .int (nI off)), (3, .int (nI len))]) hx hb dX9_putBytes_10 hl (by decide) rfl (fun ls hl => ?_)
  have loop2 : ∀ (n : Nat) (i : Nat) (y1 : Int32) (y2 : Int64) (y3 : Int32), i ≤ len → len + 1 ≤ i + n → HS seed (app d k g) (k + i) y1 y2 y3 → ∀ (H : Heap) (locs : List Loc), va_P D vwCl [(h0, .inr (4, [.int y1, .long y2, .int y3, .int (nI (k + i)), .int dn])), (h9, .inl (c1, n1, .inl a1))] H → va_D A [(h0, .inr (4, [.int y1, .long y2, .int y3, .int (nI (k + i)), .int dn])), (h9, .inl (c1, n1, .inl a1))] → va_S A s.heap H locs → ∀ (ls : Array Slot), lv_has ls 5 [(4, .int (nI i)), (0, .ref h0), (1, .ref h9), (2, .int (nI off)), (3, .int (nI len))] → W p l e (headSpec (ws_ yX9_putBytes cX9_putBytes 5 (some (.object "Hasher"))) ({ frames := 4, cells := 0, slots := 0, locals := 86 })).room s m ([.ref h0, .ref h9, .int (nI off), .int (nI len)] : List Value).toArray below meth c H locs 0 0 (MQ below (va_Qr (S := (Int32 × Int64 × Int32)) (fun u => HS seed (app d k (fun j => uN (a1 (off + j)))) (k + len) u.1 u.2.1 u.2.2) (fun u q => hk_E D ([(h0, .inr (4, [.int u.1, .long u.2.1, .int u.2.2, .int (nI (k + len)), .int dn])), (h9, .inl (c1, n1, .inl a1))]) ([(c1, .byte)]) A) A) ([.ref h0, .ref h9, .int (nI off), .int (nI len)] : List Value).toArray s 0 0 A) (F0 m 40 ls []) := by
    intro n
    induction n with
    | zero =>
      intro i y1 y2 y3 hi hfu hY
      exact absurd hfu (by omega)
    | succ n ih =>
      intro i y1 y2 y3 hi hfu hY H locs hP hD hS ls hl
      refine lv_iload hx hb dX9_putBytes_40 (lv_at hl 0 rfl) ?_
      refine lv_iload_n hx hb dX9_putBytes_42 rfl (lv_at hl 4 rfl) ?_
      refine lv_icmp_ge (tgt := 63) hx hb dX9_putBytes_43 (by decide) (fun c_2 => ?_) (fun c_2 => ?_)
      · have hi5 : i = len := by have h9 := le_of_nI (by omega) (by omega) c_2; omega
        rw [hi5] at hP hD hY
        refine lv_aload_n hx hb dX9_putBytes_63 rfl (lv_at hl 1 rfl) ?_
        have hP9 := hP.sub (ws' := [(h0, .inr (4, [.int y1, .long y2, .int y3, .int (nI (k + len)), .int dn])), (h9, .inl (c1, n1, .inl a1))]) [0, 1] rfl
        have hD9 := hD.sub (ws' := [(h0, .inr (4, [.int y1, .long y2, .int y3, .int (nI (k + len)), .int dn])), (h9, .inl (c1, n1, .inl a1))]) [0, 1] (by decide) rfl
        have hK9 := hK.sub (tys' := [(c1, .byte)]) [0] rfl
        exact W.aret (v := .ref h0) hx hb hr (Or.inl ⟨_, rfl⟩) (Or.inr ⟨_, rfl⟩) (fun t ht hW => ⟨⟨(y1, y2, y3), _, rfl, by rw [← hg]; exact hY, hk_at ht hW hP9 hK9 hD9⟩, hS.F ht⟩) hS.2.2 dX9_putBytes_64
      · have hi5 : i < len := by have h9 := lt_of_nle (by omega) (by omega) c_2; omega
        refine lv_aload_n hx hb dX9_putBytes_46 rfl (lv_at hl 1 rfl) ?_
        refine lv_aload_n hx hb dX9_putBytes_47 rfl (lv_at hl 2 rfl) ?_
        refine lv_iload_n hx hb dX9_putBytes_48 rfl (lv_at hl 3 rfl) ?_
        refine lv_iload hx hb dX9_putBytes_49 (lv_at hl 0 rfl) ?_
        refine lv_iadd hx hb dX9_putBytes_51 ?_
        refine hk_ti (y := nI (off + i)) (nI_add _ _) ?_
        refine va_bald hx hb hK hP 1 0 rfl rfl (vp_in_nI (by omega) (by omega)) dX9_putBytes_52 ?_
        refine hk_ti (y := a1 (off + i)) (by rw [nI_clamp (by omega)]) ?_
        refine hk_cr (wr := [(h9, .inl (c1, n1, .inl a1))]) (va_runV (As := [.int (a1 (off + i))]) (rest := []) ⟨hx, hb, hml, hown, hts⟩ (met_pb l D H.size h0 (k + i) seed (app d k g) y1 y2 y3 dn (a1 (off + i)) (by omega) hY) (cwV 1 hts (lw_V q221 q222 q223 q23 q224) rfl rfl rfl (by decide +kernel) ⟨Nat.le_of_ble_eq_true rfl, Nat.le_of_ble_eq_true rfl⟩) (hk_BV (hP.sub (ws' := [(h0, .inr (4, [.int y1, .long y2, .int y3, .int (nI (k + i)), .int dn]))]) [0] rfl) (hK.sub (tys' := []) [] rfl) hN (hD.sub (ws' := [(h0, .inr (4, [.int y1, .long y2, .int y3, .int (nI (k + i)), .int dn]))]) [0] (by decide) rfl) (va_recv hK hP (ci := 4) (q0 := 0) rfl rfl)) rfl rfl hl.1 rfl (lv_room (Nat.le_of_ble_eq_true rfl)) dX9_putBytes_53 ⟨Nat.le_of_ble_eq_true rfl, Nat.le_of_ble_eq_true rfl⟩) hP hD hK hS hA [0] [1] rfl rfl (by decide) (by decide) (fun u q7 H locs hu hP hD hK hS => ?_)
        have hP : va_P D vwCl [(h9, .inl (c1, n1, .inl a1)), (h0, .inr (4, [.int u.1, .long u.2.1, .int u.2.2, .int (nI (k + i + 1)), .int dn]))] H := hP
        have hD : va_D A [(h9, .inl (c1, n1, .inl a1)), (h0, .inr (4, [.int u.1, .long u.2.1, .int u.2.2, .int (nI (k + i + 1)), .int dn]))] := hD
        have hK : va_K D vwCl [(c1, .byte)] s := hK
        have hP := hP.sub (ws' := [(h0, .inr (4, [.int u.1, .long u.2.1, .int u.2.2, .int (nI (k + i + 1)), .int dn])), (h9, .inl (c1, n1, .inl a1))]) [1, 0] rfl
        have hD := hD.sub (ws' := [(h0, .inr (4, [.int u.1, .long u.2.1, .int u.2.2, .int (nI (k + i + 1)), .int dn])), (h9, .inl (c1, n1, .inl a1))]) [1, 0] (by decide) rfl
        refine lv_pop hx hb dX9_putBytes_56 rfl ?_
        refine lv_iinc (v := nI (i + 1)) (lv' := [(4, .int (nI (i + 1))), (0, .ref h0), (1, .ref h9), (2, .int (nI off)), (3, .int (nI len))]) hx hb dX9_putBytes_57 hl (k := 0) rfl (nI_o1 _) (by decide) rfl (fun ls hl => ?_)
        refine lv_goto (tgt := 40) hx hb dX9_putBytes_60 (by decide) ?_
        have hl := lv_sub hl (l' := [(4, .int (nI (i + 1))), (0, .ref h0), (1, .ref h9), (2, .int (nI off)), (3, .int (nI len))]) [0, 1, 2, 3, 4] rfl
        exact ih (i + 1) u.1 u.2.1 u.2.2 (by omega) (by omega) (HS_two (g := g) hu (fun _ _ => rfl) (fun j hj => by rw [show j = 0 by omega, hg]; rfl)) H locs hP hD hS ls hl
  have loop1 : ∀ (n : Nat) (b : Nat) (y1 : Int32) (y2 : Int64) (y3 : Int32), b ≤ len / 4 → len / 4 + 1 ≤ b + n → HS seed (app d k g) (k + 4 * b) y1 y2 y3 → ∀ (H : Heap) (locs : List Loc), va_P D vwCl [(h0, .inr (4, [.int y1, .long y2, .int y3, .int (nI (k + 4 * b)), .int dn])), (h9, .inl (c1, n1, .inl a1))] H → va_D A [(h0, .inr (4, [.int y1, .long y2, .int y3, .int (nI (k + 4 * b)), .int dn])), (h9, .inl (c1, n1, .inl a1))] → va_S A s.heap H locs → ∀ (ls : Array Slot), lv_has ls 5 [(4, .int (nI (4 * b))), (0, .ref h0), (1, .ref h9), (2, .int (nI off)), (3, .int (nI len))] → W p l e (headSpec (ws_ yX9_putBytes cX9_putBytes 5 (some (.object "Hasher"))) ({ frames := 4, cells := 0, slots := 0, locals := 86 })).room s m ([.ref h0, .ref h9, .int (nI off), .int (nI len)] : List Value).toArray below meth c H locs 0 0 (MQ below (va_Qr (S := (Int32 × Int64 × Int32)) (fun u => HS seed (app d k (fun j => uN (a1 (off + j)))) (k + len) u.1 u.2.1 u.2.2) (fun u q => hk_E D ([(h0, .inr (4, [.int u.1, .long u.2.1, .int u.2.2, .int (nI (k + len)), .int dn])), (h9, .inl (c1, n1, .inl a1))]) ([(c1, .byte)]) A) A) ([.ref h0, .ref h9, .int (nI off), .int (nI len)] : List Value).toArray s 0 0 A) (F0 m 12 ls []) := by
    intro n
    induction n with
    | zero =>
      intro b y1 y2 y3 hb4 hfu hY
      exact absurd hfu (by omega)
    | succ n ih =>
      intro b y1 y2 y3 hb4 hfu hY H locs hP hD hS ls hl
      refine lv_iload hx hb dX9_putBytes_12 (lv_at hl 0 rfl) ?_
      refine lv_iconst (v := 4) hx hb dX9_putBytes_14 (by decide) ?_
      refine lv_iadd hx hb dX9_putBytes_15 ?_
      refine hk_ti (y := nI (4 * b + 4)) (nI_inc (4 * b) 4 rfl) ?_
      refine lv_iload_n hx hb dX9_putBytes_16 rfl (lv_at hl 4 rfl) ?_
      refine lv_icmp_gt (tgt := 40) hx hb dX9_putBytes_17 (by decide) (fun c_4 => ?_) (fun c_4 => ?_)
      · exact loop2 (len + 1) (4 * b) y1 y2 y3 (by omega) (by omega) hY H locs hP hD hS ls hl
      · have hb5 : 4 * b + 4 ≤ len := by have h9 := le_of_nlt (by omega) (by omega) c_4; omega
        refine lv_aload_n hx hb dX9_putBytes_20 rfl (lv_at hl 1 rfl) ?_
        refine lv_iconst (v := 4) hx hb dX9_putBytes_21 (by decide) ?_
        refine lv_aload_n hx hb dX9_putBytes_22 rfl (lv_at hl 2 rfl) ?_
        refine lv_iload_n hx hb dX9_putBytes_23 rfl (lv_at hl 3 rfl) ?_
        refine lv_iload hx hb dX9_putBytes_24 (lv_at hl 0 rfl) ?_
        refine lv_iadd hx hb dX9_putBytes_26 ?_
        refine hk_ti (y := nI (off + 4 * b)) (nI_add _ _) ?_
        refine vp_callSi (va_Run.run (va_runSN (As := [.ref h9, .int (nI (off + 4 * b))]) (rest := [.int 4, .ref h0]) ⟨hx, hb, hml, hown, hts⟩ (met_gi l D h9 n1 c1 a1 (off + 4 * b) (by omega) (by omega)) ⟨va_cnB 2 hts (lw_meth q200) rfl rfl rfl hN.1 (hts _ q9) (by decide +kernel) ⟨Nat.le_of_ble_eq_true rfl, Nat.le_of_ble_eq_true rfl⟩, hts _ q199, trivial⟩ (hk_CS (hP.sub (ws' := [(h9, .inl (c1, n1, .inl a1))]) [1] rfl) (hK.sub (tys' := [(c1, .byte)]) [0] rfl) hN) rfl rfl hl.1 rfl (lv_room (Nat.le_of_ble_eq_true rfl)) dX9_putBytes_27 ⟨Nat.le_of_ble_eq_true rfl, Nat.le_of_ble_eq_true rfl⟩)) (fun r_5 hr_5 => ?_)
        obtain rfl : r_5 = nI (wN (fun j => uN (a1 j)) (off + 4 * b) 4) := hr_5
        refine lv_i2l (v := (nI (wN (fun j => uN (a1 j)) (off + 4 * b) 4) : Int32).toInt64) hx hb dX9_putBytes_30 rfl ?_
        refine hk_cv (wr := [(h9, .inl (c1, n1, .inl a1))]) (va_runV (As := [.int 4, .long ((nI (wN (fun j => uN (a1 j)) (off + 4 * b) 4) : Int32).toInt64)]) (rest := []) ⟨hx, hb, hml, hown, hts⟩ (met_up l D H.size h0 (k + 4 * b) seed (app d k g) y1 y2 y3 dn 4 (wN (fun j => uN (a1 j)) (off + 4 * b) 4) ((nI (wN (fun j => uN (a1 j)) (off + 4 * b) 4)).toInt64) (by omega) (by decide) (by rw [uL_i2l]; exact uN_small (wN_lt _ _ 4)) (wN_lt _ _ 4) hY) (cwV 2 hts (lw_V q204 q206 qs3 q23 q207) rfl rfl rfl (by decide +kernel) ⟨Nat.le_of_ble_eq_true rfl, Nat.le_of_ble_eq_true rfl⟩) (hk_BV (hP.sub (ws' := [(h0, .inr (4, [.int y1, .long y2, .int y3, .int (nI (k + 4 * b)), .int dn]))]) [0] rfl) (hK.sub (tys' := []) [] rfl) hN (hD.sub (ws' := [(h0, .inr (4, [.int y1, .long y2, .int y3, .int (nI (k + 4 * b)), .int dn]))]) [0] (by decide) rfl) (va_recv hK hP (ci := 4) (q0 := 0) rfl rfl)) rfl rfl hl.1 rfl (lv_room (Nat.le_of_ble_eq_true rfl)) dX9_putBytes_31 ⟨Nat.le_of_ble_eq_true rfl, Nat.le_of_ble_eq_true rfl⟩) hP hD hK hS hA [0] [1] rfl rfl (by decide) (by decide) (fun u H locs hu hP hD hK hS => ?_)
        have hP : va_P D vwCl [(h9, .inl (c1, n1, .inl a1)), (h0, .inr (4, [.int u.1, .long u.2.1, .int u.2.2, .int (nI (k + 4 * b + 4)), .int dn]))] H := hP
        have hD : va_D A [(h9, .inl (c1, n1, .inl a1)), (h0, .inr (4, [.int u.1, .long u.2.1, .int u.2.2, .int (nI (k + 4 * b + 4)), .int dn]))] := hD
        have hK : va_K D vwCl [(c1, .byte)] s := hK
        have hP := hP.sub (ws' := [(h0, .inr (4, [.int u.1, .long u.2.1, .int u.2.2, .int (nI (k + 4 * b + 4)), .int dn])), (h9, .inl (c1, n1, .inl a1))]) [1, 0] rfl
        have hD := hD.sub (ws' := [(h0, .inr (4, [.int u.1, .long u.2.1, .int u.2.2, .int (nI (k + 4 * b + 4)), .int dn])), (h9, .inl (c1, n1, .inl a1))]) [1, 0] (by decide) rfl
        refine lv_iinc (v := nI (4 * (b + 1))) (lv' := [(4, .int (nI (4 * (b + 1)))), (0, .ref h0), (1, .ref h9), (2, .int (nI off)), (3, .int (nI len))]) hx hb dX9_putBytes_34 hl (k := 0) rfl (nI_o4 _) (by decide) rfl (fun ls hl => ?_)
        refine lv_goto (tgt := 12) hx hb dX9_putBytes_37 (by decide) ?_
        have hl := lv_sub hl (l' := [(4, .int (nI (4 * (b + 1)))), (0, .ref h0), (1, .ref h9), (2, .int (nI off)), (3, .int (nI len))]) [0, 1, 2, 3, 4] rfl
        exact ih (b + 1) u.1 u.2.1 u.2.2 (by omega) (by omega) (HS_two (g := g) hu (fun _ _ => rfl) (fun j hj => by rw [gL_w _ _ hj, hg, Nat.add_assoc]; rfl)) H locs hP hD hS ls hl
  have hl := lv_sub hl (l' := [(4, .int 0), (0, .ref h0), (1, .ref h9), (2, .int (nI off)), (3, .int (nI len))]) [0, 1, 2, 3, 4] rfl
  exact loop1 (len / 4 + 1) 0 h1 buf sh (Nat.zero_le _) (by omega) (HS_congr hH (fun j hj => by rw [app_lo (show j < k by omega)])) _ _ hP hD hS ls hl
end
section
set_option maxRecDepth 20000
/-! PLAIN LAW of the desk: a run that goes on or not, what it is fed, the text that is put -/
/-- a run: its seed, its bytes, how many; or none -/
abbrev hk_R : Type := Option (Int32 × (Nat → Nat) × Nat)
/-- the desk's field 'run', the cell qh, the field 'fed' picture a run -/
def dkr (rv : Value) (qh : Nat) (e : va_E) (fd : Int32) (r : hk_R) : Prop := match r with
  | none => rv = .null
  | some (seed, d, k) => rv = .ref qh ∧ fd = nI k ∧ k ≤ 4096 ∧ ∃ (h1 : Int32) (buf : Int64) (sh : Int32), e = .inr (4, [.int h1, .long buf, .int sh, .int (nI k), .int 0]) ∧ HS seed d k h1 buf sh
/-- what feeding c bytes of g tells and leaves -/
def fedP (rv : Value) (qh : Nat) (e : va_E) (fd : Int32) (r : hk_R) (c : Nat) (g : Nat → Nat) (z : Int32) (u : Int32 × va_E) : Prop := match r with
  | none => z = 0 ∧ u = (fd, e)
  | some (seed, d, k) => (k + c ≤ 4096 ∧ z = 1 ∧ dkr rv qh u.2 u.1 (some (seed, app d k g, k + c))) ∨ (4096 < k + c ∧ z = 0 ∧ u = (fd, e))
/-- what closing tells -/
def m_told (r : hk_R) : Int32 := match r with
  | none => 0
  | some (seed, d, k) => m_hash d k seed
def bz (x : Int32) : Int32 := vp_nar .byte x.toInt8.toInt32
/-- a word put at a, the highest byte first -/
def pw (f : Nat → Int32) (a : Nat) (x : Int32) : Nat → Int32 := upd (upd (upd (upd f a (bz (x >>> ((24 : Int32) &&& 31)))) (a + 1) (bz (x >>> ((16 : Int32) &&& 31)))) (a + 2) (bz (x >>> ((8 : Int32) &&& 31)))) (a + 3) (bz x)
def putf (f : Nat → Int32) (n : Nat) (a b c d : Int32) : Nat → Int32 := pw (pw (pw (pw f n a) (n + 4) b) (n + 8) c) (n + 12) d
theorem upd_cl {f : Nat → Int32} {a : Nat} {x y : Int32} (h : a < 2 ^ 31) (hx : x = y) : upd f (nI a).toNatClampNeg x = upd f a y := by rw [nI_clamp h, hx]
theorem mdN_le (x : Int32) (n : Nat) : mdN x (n + 1) ≤ n := Nat.le_of_lt_succ (mdN_lt x (Nat.succ_pos n))
/-- the place and the number of a drawn piece stay in the text -/
theorem md_in (x y : Int32) (n : Nat) : mdN x (n + 1) + mdN y (n - mdN x (n + 1) + 1) ≤ n := by
  have h1 := mdN_le x n
  have h2 := mdN_le y (n - mdN x (n + 1))
  omega
/-- what a call through the face Hasher asks, and one whose named method is abstract -/
theorem lw_F {own : String} {idx : Nat} {C : String} {x y : MethodName} {b : ByteArray} {L : Nat} {r : Option FieldType} (h1 : Cond.methodLink own idx x ∈ lw_all) (h2 : Cond.selects C x y ∈ lw_all) (h3 : Cond.instanceMethod y ∈ lw_all) (h4 : Cond.initialized y.cls ∈ lw_all) (h5 : Cond.code y b L r ∈ lw_all) : GoodIn lw_all (va_wsF own idx C x y (ws_ y b L r)) := by
  refine lw_app ?_ (lw_meth h5)
  intro w hw
  simp only [List.mem_cons, List.not_mem_nil, or_false] at hw
  rcases hw with e | e | e | e
  · rw [e]; exact h1
  · rw [e]; exact h2
  · rw [e]; exact h3
  · rw [e]; exact h4
theorem lw_U {own : String} {idx : Nat} {C owner : String} {x y : MethodName} {b : ByteArray} {L : Nat} {r : Option FieldType} (h1 : Cond.methodLink own idx x ∈ lw_all) (h0 : Cond.sameMethod x.cls owner x.name x.desc ∈ lw_all) (h2 : Cond.selects C x y ∈ lw_all) (h3 : Cond.instanceMethod y ∈ lw_all) (h4 : Cond.initialized y.cls ∈ lw_all) (h5 : Cond.code y b L r ∈ lw_all) : GoodIn lw_all (va_wsU own idx C owner x y (ws_ y b L r)) := by
  refine lw_app ?_ (lw_meth h5)
  intro w hw
  simp only [List.mem_cons, List.not_mem_nil, or_false] at hw
  rcases hw with e | e | e | e | e
  · rw [e]; exact h1
  · rw [e]; exact h0
  · rw [e]; exact h2
  · rw [e]; exact h3
  · rw [e]; exact h4
end
section
/-! THE DESK -/
set_option maxHeartbeats 4000000 in
set_option maxRecDepth 100000 in
/-- StreamHashDesk() -/
theorem met_di (l : Launch) (D : va_G) (sz : Nat) (h0 : Nat) : Met l yX1_init (ws_ yX1_init cX1_init 1 none) ({ frames := 1, cells := 1, slots := 256, locals := 12 }) (va_Pc [.ref h0] (hk_B D [(h0, .inr (1, [.null, .int 0, .null, .int 0]))] [] sz)) (va_Qv (S := (Nat × ClassId)) (fun _ => True) (fun u => hk_E D ([(h0, .inr (1, [.ref u.1, .int 0, .null, .int 0])), (u.1, .inl (u.2, 256, .inl (fun _ => 0)))]) ([(u.2, .byte)]) (va_A [(h0, .inr (1, [.null, .int 0, .null, .int 0]))] sz)) (va_A [(h0, .inr (1, [.null, .int 0, .null, .int 0]))] sz)) 1 256 (va_A [(h0, .inr (1, [.null, .int 0, .null, .int 0]))] sz) := by
  refine Met.ofW (cc := cX1_init) (maxL := 1) (ret := none) (by decide +kernel) rfl ?_
  intro p e s m args below meth c s₁ B hml hv
  obtain ⟨rfl, hsz, hP, hK, hD0, hN⟩ := hv
  have hx := B.exec
  have hb := B.bytes
  have hr := B.returns
  have hts := atoms_spec (ws := (ws_ yX1_init cX1_init 1 none)) B.pre
  have hts : ∀ w ∈ lw_all, w.before _ s = true := fun w h => hts w (List.mem_cons_of_mem _ h)
  have hown : s.vm.findClass RX1 = some m.cls := findClass_of_methodNamed B.named
  have hlocks := B.notSynchronized
  have hin : meth.name = "<init>" := (name_of_methodNamed B.named B.method).1
  subst hsz
  have hD := hD0.self (sz := s.heap.size)
  generalize hAe : va_A [(h0, .inr (1, [.null, .int 0, .null, .int 0]))] s.heap.size = A at hD ⊢
  have hA : ∀ q : Nat, s.heap.size ≤ q → A q := fun q h => by rw [← hAe]; exact Or.inr h
  have hS : va_S A s.heap s.heap [] := va_S.rf
  have hP : va_P D vwCl [(h0, .inr (1, [.null, .int 0, .null, .int 0]))] s.heap := hP
  have hl := lv_entry ([.ref h0]) (n := 1) (Nat.le_of_ble_eq_true rfl)
  rw [lg_entry_eq]
  generalize (lg_sl ([.ref h0]) ++ List.replicate (1 - (lg_sl ([.ref h0])).length) Slot.unset).toArray = ls at hl ⊢
  have hl : lv_has ls 1 [(0, .ref h0)] := hl
  refine lv_aload_n hx hb dX1_init_0 rfl (lv_at hl 0 rfl) ?_
  refine W.objInit hx hb hown (hts _ q29) (hts _ q30) (hts _ q31) rfl (by rw [hml]; exact hl.1) rfl dX1_init_1 (Nat.le_of_ble_eq_true rfl) (Nat.le_of_ble_eq_true rfl) ?_
  refine W.eq (g2 := F0 m 4 ls []) rfl ?_
  refine lv_aload_n hx hb dX1_init_4 rfl (lv_at hl 0 rfl) ?_
  refine lv_sipush (v := 256) hx hb dX1_init_5 (by decide) ?_
  refine va_newa (atype := .byte) (ty := .byte) (N' := 256) (a0 := (256, .inl (fun _ => 0))) hx hb (hts _ q45) rfl hK hP hD hS hA (fun _ => rfl) (by decide) (by decide +kernel) (Nat.le_of_ble_eq_true rfl) (Nat.le_of_ble_eq_true rfl) (Nat.le_of_ble_eq_true rfl) dX1_init_8 (fun q0 c0 H hK hP hD hS => ?_)
  have hP : va_P D vwCl [(h0, .inr (1, [.null, .int 0, .null, .int 0])), (q0, .inl (c0, 256, .inl (fun _ => 0)))] H := hP
  have hD : va_D A [(h0, .inr (1, [.null, .int 0, .null, .int 0])), (q0, .inl (c0, 256, .inl (fun _ => 0)))] := hD
  have hK : va_K D vwCl [(c0, .byte)] s := hK
  refine va_putF (D := D) (ci := 1) (v := .ref q0) (ty := .array .byte) (C := RX1) (T := TX1) (N := 4) hx hb hts in_X1 tyX1 tyX1_ok nmX1 hown hK hP hD hS 0 rfl rfl 0 (by decide) (hts _ q32) (fun _ h9 => h9) rfl hin rfl (by decide +kernel) rfl rfl (Nat.le_of_ble_eq_true rfl) dX1_init_10 (fun H locs hP hD hS => ?_)
  have hP : va_P D vwCl [(h0, .inr (1, [.ref q0, .int 0, .null, .int 0])), (q0, .inl (c0, 256, .inl (fun _ => 0)))] H := hP
  have hD : va_D A [(h0, .inr (1, [.ref q0, .int 0, .null, .int 0])), (q0, .inl (c0, 256, .inl (fun _ => 0)))] := hD
  have hP9 := hP.sub (ws' := [(h0, .inr (1, [.ref q0, .int 0, .null, .int 0])), (q0, .inl (c0, 256, .inl (fun _ => 0)))]) [0, 1] rfl
  have hD9 := hD.sub (ws' := [(h0, .inr (1, [.ref q0, .int 0, .null, .int 0])), (q0, .inl (c0, 256, .inl (fun _ => 0)))]) [0, 1] (by decide) rfl
  have hK9 := hK.sub (tys' := [(c0, .byte)]) [0] rfl
  refine W.widen (k := 1) (n := 256) (by omega) (by omega) ?_
  exact W.vret hx hb hr (fun t ht hW => ⟨⟨(q0, c0), rfl, trivial, hk_at ht hW hP9 hK9 hD9⟩, hS.F ht⟩) hS.2.2 dX1_init_13
set_option maxHeartbeats 4000000 in
set_option maxRecDepth 100000 in
/-- word(to, at, w) -/
theorem met_pw (l : Launch) (D : va_G) (sz : Nat) (h0 : Nat) (c0 : ClassId) (a0 : Nat → Int32) (ao : Nat) (x : Int32) (ha : ao + 4 ≤ 256) : Met l yX1_word (ws_ yX1_word cX1_word 3 none) ({ frames := 0, cells := 0, slots := 0, locals := 0 }) (va_Pc [.ref h0, .int (nI ao), .int x] (hk_B D [(h0, .inl (c0, 256, .inl a0))] [(c0, .byte)] sz)) (va_Qv (S := Unit) (fun _ => True) (fun u => hk_E D ([(h0, .inl (c0, 256, .inl (pw a0 ao x)))]) ([(c0, .byte)]) (va_A [(h0, .inl (c0, 256, .inl a0))] sz)) (va_A [(h0, .inl (c0, 256, .inl a0))] sz)) 0 0 (va_A [(h0, .inl (c0, 256, .inl a0))] sz) := by
  refine Met.ofW (cc := cX1_word) (maxL := 3) (ret := none) (by decide +kernel) rfl ?_
  intro p e s m args below meth c s₁ B hml hv
  obtain ⟨rfl, hsz, hP, hK, hD0, hN⟩ := hv
  have hx := B.exec
  have hb := B.bytes
  have hr := B.returns
  have hts := atoms_spec (ws := (ws_ yX1_word cX1_word 3 none)) B.pre
  have hts : ∀ w ∈ lw_all, w.before _ s = true := fun w h => hts w (List.mem_cons_of_mem _ h)
  have hown : s.vm.findClass RX1 = some m.cls := findClass_of_methodNamed B.named
  have hlocks := B.notSynchronized
  subst hsz
  have hD := hD0.self (sz := s.heap.size)
  generalize hAe : va_A [(h0, .inl (c0, 256, .inl a0))] s.heap.size = A at hD ⊢
  have hA : ∀ q : Nat, s.heap.size ≤ q → A q := fun q h => by rw [← hAe]; exact Or.inr h
  have hS : va_S A s.heap s.heap [] := va_S.rf
  have hP : va_P D vwCl [(h0, .inl (c0, 256, .inl a0))] s.heap := hP
  have hl := lv_entry ([.ref h0, .int (nI ao), .int x]) (n := 3) (Nat.le_of_ble_eq_true rfl)
  rw [lg_entry_eq]
  generalize (lg_sl ([.ref h0, .int (nI ao), .int x]) ++ List.replicate (3 - (lg_sl ([.ref h0, .int (nI ao), .int x])).length) Slot.unset).toArray = ls at hl ⊢
  have hl : lv_has ls 3 [(0, .ref h0), (1, .int (nI ao)), (2, .int x)] := hl
  refine lv_aload_n hx hb dX1_word_0 rfl (lv_at hl 0 rfl) ?_
  refine lv_iload_n hx hb dX1_word_1 rfl (lv_at hl 1 rfl) ?_
  refine lv_iload_n hx hb dX1_word_2 rfl (lv_at hl 2 rfl) ?_
  refine lv_bipush (v := 24) hx hb dX1_word_3 (by decide) ?_
  refine lv_ishr hx hb dX1_word_5 ?_
  refine lv_i2b (v := (x >>> (24 &&& 31) : Int32).toInt8.toInt32) hx hb dX1_word_6 rfl ?_
  refine va_bast hx hb hK hP hD hS 0 0 rfl rfl (vp_in_nI (by omega) (by omega)) dX1_word_7 (fun H locs hP hD hS => ?_)
  have hP : va_P D vwCl [(h0, .inl (c0, 256, .inl (upd a0 (nI ao).toNatClampNeg (vp_nar .byte ((x >>> (24 &&& 31) : Int32).toInt8.toInt32)))))] H := hP
  have hD : va_D A [(h0, .inl (c0, 256, .inl (upd a0 (nI ao).toNatClampNeg (vp_nar .byte ((x >>> (24 &&& 31) : Int32).toInt8.toInt32)))))] := hD
  rw [show upd a0 (nI ao).toNatClampNeg (vp_nar .byte ((x >>> (24 &&& 31) : Int32).toInt8.toInt32)) = upd a0 ao (bz (x >>> ((24 : Int32) &&& 31))) from upd_cl (by omega) rfl] at hP hD
  have hP : va_P D vwCl [(h0, .inl (c0, 256, .inl (upd a0 ao (bz (x >>> ((24 : Int32) &&& 31))))))] H := hP
  have hD : va_D A [(h0, .inl (c0, 256, .inl (upd a0 ao (bz (x >>> ((24 : Int32) &&& 31))))))] := hD
  refine lv_aload_n hx hb dX1_word_8 rfl (lv_at hl 0 rfl) ?_
  refine lv_iload_n hx hb dX1_word_9 rfl (lv_at hl 1 rfl) ?_
  refine lv_iconst (v := 1) hx hb dX1_word_10 (by decide) ?_
  refine lv_iadd hx hb dX1_word_11 ?_
  refine hk_ti (y := nI (ao + 1)) (nI_inc ao 1 rfl) ?_
  refine lv_iload_n hx hb dX1_word_12 rfl (lv_at hl 2 rfl) ?_
  refine lv_bipush (v := 16) hx hb dX1_word_13 (by decide) ?_
  refine lv_ishr hx hb dX1_word_15 ?_
  refine lv_i2b (v := (x >>> (16 &&& 31) : Int32).toInt8.toInt32) hx hb dX1_word_16 rfl ?_
  refine va_bast hx hb hK hP hD hS 0 0 rfl rfl (vp_in_nI (by omega) (by omega)) dX1_word_17 (fun H locs hP hD hS => ?_)
  have hP : va_P D vwCl [(h0, .inl (c0, 256, .inl (upd (upd a0 ao (bz (x >>> ((24 : Int32) &&& 31)))) (nI (ao + 1)).toNatClampNeg (vp_nar .byte ((x >>> (16 &&& 31) : Int32).toInt8.toInt32)))))] H := hP
  have hD : va_D A [(h0, .inl (c0, 256, .inl (upd (upd a0 ao (bz (x >>> ((24 : Int32) &&& 31)))) (nI (ao + 1)).toNatClampNeg (vp_nar .byte ((x >>> (16 &&& 31) : Int32).toInt8.toInt32)))))] := hD
  rw [show upd (upd a0 ao (bz (x >>> ((24 : Int32) &&& 31)))) (nI (ao + 1)).toNatClampNeg (vp_nar .byte ((x >>> (16 &&& 31) : Int32).toInt8.toInt32)) = upd (upd a0 ao (bz (x >>> ((24 : Int32) &&& 31)))) (ao + 1) (bz (x >>> ((16 : Int32) &&& 31))) from upd_cl (by omega) rfl] at hP hD
  have hP : va_P D vwCl [(h0, .inl (c0, 256, .inl (upd (upd a0 ao (bz (x >>> ((24 : Int32) &&& 31)))) (ao + 1) (bz (x >>> ((16 : Int32) &&& 31))))))] H := hP
  have hD : va_D A [(h0, .inl (c0, 256, .inl (upd (upd a0 ao (bz (x >>> ((24 : Int32) &&& 31)))) (ao + 1) (bz (x >>> ((16 : Int32) &&& 31))))))] := hD
  refine lv_aload_n hx hb dX1_word_18 rfl (lv_at hl 0 rfl) ?_
  refine lv_iload_n hx hb dX1_word_19 rfl (lv_at hl 1 rfl) ?_
  refine lv_iconst (v := 2) hx hb dX1_word_20 (by decide) ?_
  refine lv_iadd hx hb dX1_word_21 ?_
  refine hk_ti (y := nI (ao + 2)) (nI_inc ao 2 rfl) ?_
  refine lv_iload_n hx hb dX1_word_22 rfl (lv_at hl 2 rfl) ?_
  refine lv_bipush (v := 8) hx hb dX1_word_23 (by decide) ?_
  refine lv_ishr hx hb dX1_word_25 ?_
  refine lv_i2b (v := (x >>> (8 &&& 31) : Int32).toInt8.toInt32) hx hb dX1_word_26 rfl ?_
  refine va_bast hx hb hK hP hD hS 0 0 rfl rfl (vp_in_nI (by omega) (by omega)) dX1_word_27 (fun H locs hP hD hS => ?_)
  have hP : va_P D vwCl [(h0, .inl (c0, 256, .inl (upd (upd (upd a0 ao (bz (x >>> ((24 : Int32) &&& 31)))) (ao + 1) (bz (x >>> ((16 : Int32) &&& 31)))) (nI (ao + 2)).toNatClampNeg (vp_nar .byte ((x >>> (8 &&& 31) : Int32).toInt8.toInt32)))))] H := hP
  have hD : va_D A [(h0, .inl (c0, 256, .inl (upd (upd (upd a0 ao (bz (x >>> ((24 : Int32) &&& 31)))) (ao + 1) (bz (x >>> ((16 : Int32) &&& 31)))) (nI (ao + 2)).toNatClampNeg (vp_nar .byte ((x >>> (8 &&& 31) : Int32).toInt8.toInt32)))))] := hD
  rw [show upd (upd (upd a0 ao (bz (x >>> ((24 : Int32) &&& 31)))) (ao + 1) (bz (x >>> ((16 : Int32) &&& 31)))) (nI (ao + 2)).toNatClampNeg (vp_nar .byte ((x >>> (8 &&& 31) : Int32).toInt8.toInt32)) = upd (upd (upd a0 ao (bz (x >>> ((24 : Int32) &&& 31)))) (ao + 1) (bz (x >>> ((16 : Int32) &&& 31)))) (ao + 2) (bz (x >>> ((8 : Int32) &&& 31))) from upd_cl (by omega) rfl] at hP hD
  have hP : va_P D vwCl [(h0, .inl (c0, 256, .inl (upd (upd (upd a0 ao (bz (x >>> ((24 : Int32) &&& 31)))) (ao + 1) (bz (x >>> ((16 : Int32) &&& 31)))) (ao + 2) (bz (x >>> ((8 : Int32) &&& 31))))))] H := hP
  have hD : va_D A [(h0, .inl (c0, 256, .inl (upd (upd (upd a0 ao (bz (x >>> ((24 : Int32) &&& 31)))) (ao + 1) (bz (x >>> ((16 : Int32) &&& 31)))) (ao + 2) (bz (x >>> ((8 : Int32) &&& 31))))))] := hD
  refine lv_aload_n hx hb dX1_word_28 rfl (lv_at hl 0 rfl) ?_
  refine lv_iload_n hx hb dX1_word_29 rfl (lv_at hl 1 rfl) ?_
  refine lv_iconst (v := 3) hx hb dX1_word_30 (by decide) ?_
  refine lv_iadd hx hb dX1_word_31 ?_
  refine hk_ti (y := nI (ao + 3)) (nI_inc ao 3 rfl) ?_
  refine lv_iload_n hx hb dX1_word_32 rfl (lv_at hl 2 rfl) ?_
  refine lv_i2b (v := (x : Int32).toInt8.toInt32) hx hb dX1_word_33 rfl ?_
  refine va_bast hx hb hK hP hD hS 0 0 rfl rfl (vp_in_nI (by omega) (by omega)) dX1_word_34 (fun H locs hP hD hS => ?_)
  have hP : va_P D vwCl [(h0, .inl (c0, 256, .inl (upd (upd (upd (upd a0 ao (bz (x >>> ((24 : Int32) &&& 31)))) (ao + 1) (bz (x >>> ((16 : Int32) &&& 31)))) (ao + 2) (bz (x >>> ((8 : Int32) &&& 31)))) (nI (ao + 3)).toNatClampNeg (vp_nar .byte ((x : Int32).toInt8.toInt32)))))] H := hP
  have hD : va_D A [(h0, .inl (c0, 256, .inl (upd (upd (upd (upd a0 ao (bz (x >>> ((24 : Int32) &&& 31)))) (ao + 1) (bz (x >>> ((16 : Int32) &&& 31)))) (ao + 2) (bz (x >>> ((8 : Int32) &&& 31)))) (nI (ao + 3)).toNatClampNeg (vp_nar .byte ((x : Int32).toInt8.toInt32)))))] := hD
  rw [show upd (upd (upd (upd a0 ao (bz (x >>> ((24 : Int32) &&& 31)))) (ao + 1) (bz (x >>> ((16 : Int32) &&& 31)))) (ao + 2) (bz (x >>> ((8 : Int32) &&& 31)))) (nI (ao + 3)).toNatClampNeg (vp_nar .byte ((x : Int32).toInt8.toInt32)) = upd (upd (upd (upd a0 ao (bz (x >>> ((24 : Int32) &&& 31)))) (ao + 1) (bz (x >>> ((16 : Int32) &&& 31)))) (ao + 2) (bz (x >>> ((8 : Int32) &&& 31)))) (ao + 3) (bz x) from upd_cl (by omega) rfl] at hP hD
  have hP : va_P D vwCl [(h0, .inl (c0, 256, .inl (upd (upd (upd (upd a0 ao (bz (x >>> ((24 : Int32) &&& 31)))) (ao + 1) (bz (x >>> ((16 : Int32) &&& 31)))) (ao + 2) (bz (x >>> ((8 : Int32) &&& 31)))) (ao + 3) (bz x))))] H := hP
  have hD : va_D A [(h0, .inl (c0, 256, .inl (upd (upd (upd (upd a0 ao (bz (x >>> ((24 : Int32) &&& 31)))) (ao + 1) (bz (x >>> ((16 : Int32) &&& 31)))) (ao + 2) (bz (x >>> ((8 : Int32) &&& 31)))) (ao + 3) (bz x))))] := hD
  have hP9 := hP.sub (ws' := [(h0, .inl (c0, 256, .inl (upd (upd (upd (upd a0 ao (bz (x >>> ((24 : Int32) &&& 31)))) (ao + 1) (bz (x >>> ((16 : Int32) &&& 31)))) (ao + 2) (bz (x >>> ((8 : Int32) &&& 31)))) (ao + 3) (bz x))))]) [0] rfl
  have hD9 := hD.sub (ws' := [(h0, .inl (c0, 256, .inl (upd (upd (upd (upd a0 ao (bz (x >>> ((24 : Int32) &&& 31)))) (ao + 1) (bz (x >>> ((16 : Int32) &&& 31)))) (ao + 2) (bz (x >>> ((8 : Int32) &&& 31)))) (ao + 3) (bz x))))]) [0] (by decide) rfl
  have hK9 := hK.sub (tys' := [(c0, .byte)]) [0] rfl
  exact W.vret hx hb hr (fun t ht hW => ⟨⟨(), rfl, trivial, hk_at ht hW hP9 hK9 hD9⟩, hS.F ht⟩) hS.2.2 dX1_word_35
set_option maxHeartbeats 4000000 in
set_option maxRecDepth 100000 in
/-- put -/
theorem met_pt (l : Launch) (D : va_G) (sz : Nat) (h0 qt n : Nat) (ct : ClassId) (tx : Nat → Int32) (v2 : Value) (f3 : Int32) (ka kb kc kd : Int32) (hn : n ≤ 256) : Met l yX1_put (ws_ yX1_put cX1_put 5 (some .boolean)) ({ frames := 1, cells := 0, slots := 0, locals := 22 }) (va_Pc [.ref h0, .int ka, .int kb, .int kc, .int kd] (hk_B D [(h0, .inr (1, [.ref qt, .int (nI n), v2, .int f3])), (qt, .inl (ct, 256, .inl tx))] [(ct, .byte)] sz)) (va_Qi (S := ((Nat → Int32) × Nat)) (fun z u => (n ≤ 240 ∧ z = 1 ∧ u = (putf tx n ka kb kc kd, n + 16)) ∨ (240 < n ∧ z = 0 ∧ u = (tx, n))) (fun u => hk_E D ([(h0, .inr (1, [.ref qt, .int (nI u.2), v2, .int f3])), (qt, .inl (ct, 256, .inl u.1))]) ([(ct, .byte)]) (va_A [(h0, .inr (1, [.ref qt, .int (nI n), v2, .int f3])), (qt, .inl (ct, 256, .inl tx))] sz)) (va_A [(h0, .inr (1, [.ref qt, .int (nI n), v2, .int f3])), (qt, .inl (ct, 256, .inl tx))] sz)) 0 0 (va_A [(h0, .inr (1, [.ref qt, .int (nI n), v2, .int f3])), (qt, .inl (ct, 256, .inl tx))] sz) := by
  refine Met.ofW (cc := cX1_put) (maxL := 5) (ret := (some .boolean)) (by decide +kernel) rfl ?_
  intro p e s m args below meth c s₁ B hml hv
  obtain ⟨rfl, hsz, hP, hK, hD0, hN⟩ := hv
  have hx := B.exec
  have hb := B.bytes
  have hr := B.returns
  have hts := atoms_spec (ws := (ws_ yX1_put cX1_put 5 (some .boolean))) B.pre
  have hts : ∀ w ∈ lw_all, w.before _ s = true := fun w h => hts w (List.mem_cons_of_mem _ h)
  have hown : s.vm.findClass RX1 = some m.cls := findClass_of_methodNamed B.named
  have hlocks := B.notSynchronized
  subst hsz
  have hD := hD0.self (sz := s.heap.size)
  generalize hAe : va_A [(h0, .inr (1, [.ref qt, .int (nI n), v2, .int f3])), (qt, .inl (ct, 256, .inl tx))] s.heap.size = A at hD ⊢
  have hA : ∀ q : Nat, s.heap.size ≤ q → A q := fun q h => by rw [← hAe]; exact Or.inr h
  have hS : va_S A s.heap s.heap [] := va_S.rf
  have hP : va_P D vwCl [(h0, .inr (1, [.ref qt, .int (nI n), v2, .int f3])), (qt, .inl (ct, 256, .inl tx))] s.heap := hP
  have hl := lv_entry ([.ref h0, .int ka, .int kb, .int kc, .int kd]) (n := 5) (Nat.le_of_ble_eq_true rfl)
  rw [lg_entry_eq]
  generalize (lg_sl ([.ref h0, .int ka, .int kb, .int kc, .int kd]) ++ List.replicate (5 - (lg_sl ([.ref h0, .int ka, .int kb, .int kc, .int kd])).length) Slot.unset).toArray = ls at hl ⊢
  have hl : lv_has ls 5 [(0, .ref h0), (1, .int ka), (2, .int kb), (3, .int kc), (4, .int kd)] := hl
  refine lv_aload_n hx hb dX1_put_0 rfl (lv_at hl 0 rfl) ?_
  refine va_get (D := D) (ci := 1) (v := .int (nI n)) (C := RX1) (T := TX1) (N := 4) hx hb hts in_X1 hown hK hP 0 rfl rfl 1 (by decide) (hts _ q33) (fun _ h9 => h9) rfl dX1_put_1 ?_
  refine lv_aload_n hx hb dX1_put_4 rfl (lv_at hl 0 rfl) ?_
  refine va_get (D := D) (ci := 1) (v := .ref qt) (C := RX1) (T := TX1) (N := 4) hx hb hts in_X1 hown hK hP 0 rfl rfl 0 (by decide) (hts _ q32) (fun _ h9 => h9) rfl dX1_put_5 ?_
  refine va_alen (v := nI 256) hx hb hK hP 1 0 rfl rfl rfl dX1_put_8 ?_
  refine lv_bipush (v := 16) hx hb dX1_put_9 (by decide) ?_
  refine lv_isub hx hb dX1_put_11 ?_
  refine hk_ti (y := nI 240) (pk_sub (a := 256) (b := 16) (by decide)) ?_
  refine lv_icmp_le (tgt := 17) hx hb dX1_put_12 (by decide) (fun c_1 => ?_) (fun c_1 => ?_)
  · have hle := le_of_nI (by omega) (by omega) c_1
    refine lv_aload_n hx hb dX1_put_17 rfl (lv_at hl 0 rfl) ?_
    refine va_get (D := D) (ci := 1) (v := .ref qt) (C := RX1) (T := TX1) (N := 4) hx hb hts in_X1 hown hK hP 0 rfl rfl 0 (by decide) (hts _ q32) (fun _ h9 => h9) rfl dX1_put_18 ?_
    refine lv_aload_n hx hb dX1_put_21 rfl (lv_at hl 0 rfl) ?_
    refine va_get (D := D) (ci := 1) (v := .int (nI n)) (C := RX1) (T := TX1) (N := 4) hx hb hts in_X1 hown hK hP 0 rfl rfl 1 (by decide) (hts _ q33) (fun _ h9 => h9) rfl dX1_put_22 ?_
    refine lv_iload_n hx hb dX1_put_25 rfl (lv_at hl 1 rfl) ?_
    refine hk_cv (wr := [(h0, .inr (1, [.ref qt, .int (nI n), v2, .int f3]))]) (va_runS (As := [.ref qt, .int (nI n), .int ka]) (rest := []) ⟨hx, hb, hml, hown, hts⟩ (met_pw l D s.heap.size qt ct tx n ka (by omega)) (va_cwS 3 hts (lw_S q50 q51 q7 q52) rfl rfl rfl (by decide +kernel) ⟨Nat.le_of_ble_eq_true rfl, Nat.le_of_ble_eq_true rfl⟩) (hk_BS (hP.sub (ws' := [(qt, .inl (ct, 256, .inl tx))]) [1] rfl) (hK.sub (tys' := [(ct, .byte)]) [0] rfl) hN (hD.sub (ws' := [(qt, .inl (ct, 256, .inl tx))]) [1] (by decide) rfl)) rfl rfl hl.1 rfl (lv_room (Nat.le_of_ble_eq_true rfl)) dX1_put_26 ⟨Nat.le_of_ble_eq_true rfl, Nat.le_of_ble_eq_true rfl⟩) hP hD hK hS hA [1] [0] rfl rfl (by decide) (by decide) (fun u_4 H locs h_3 hP hD hK hS => ?_)
    have hP : va_P D vwCl [(h0, .inr (1, [.ref qt, .int (nI n), v2, .int f3])), (qt, .inl (ct, 256, .inl (pw tx n ka)))] H := hP
    have hD : va_D A [(h0, .inr (1, [.ref qt, .int (nI n), v2, .int f3])), (qt, .inl (ct, 256, .inl (pw tx n ka)))] := hD
    have hK := hK.sub (tys' := [(ct, .byte)]) [0] rfl
    refine lv_aload_n hx hb dX1_put_29 rfl (lv_at hl 0 rfl) ?_
    refine va_get (D := D) (ci := 1) (v := .ref qt) (C := RX1) (T := TX1) (N := 4) hx hb hts in_X1 hown hK hP 0 rfl rfl 0 (by decide) (hts _ q32) (fun _ h9 => h9) rfl dX1_put_30 ?_
    refine lv_aload_n hx hb dX1_put_33 rfl (lv_at hl 0 rfl) ?_
    refine va_get (D := D) (ci := 1) (v := .int (nI n)) (C := RX1) (T := TX1) (N := 4) hx hb hts in_X1 hown hK hP 0 rfl rfl 1 (by decide) (hts _ q33) (fun _ h9 => h9) rfl dX1_put_34 ?_
    refine lv_iconst (v := 4) hx hb dX1_put_37 (by decide) ?_
    refine lv_iadd hx hb dX1_put_38 ?_
    refine hk_ti (y := nI (n + 4)) (nI_inc n 4 rfl) ?_
    refine lv_iload_n hx hb dX1_put_39 rfl (lv_at hl 2 rfl) ?_
    refine hk_cv (wr := [(h0, .inr (1, [.ref qt, .int (nI n), v2, .int f3]))]) (va_runS (As := [.ref qt, .int (nI (n + 4)), .int kb]) (rest := []) ⟨hx, hb, hml, hown, hts⟩ (met_pw l D H.size qt ct (pw tx n ka) (n + 4) kb (by omega)) (va_cwS 3 hts (lw_S q50 q51 q7 q52) rfl rfl rfl (by decide +kernel) ⟨Nat.le_of_ble_eq_true rfl, Nat.le_of_ble_eq_true rfl⟩) (hk_BS (hP.sub (ws' := [(qt, .inl (ct, 256, .inl (pw tx n ka)))]) [1] rfl) (hK.sub (tys' := [(ct, .byte)]) [0] rfl) hN (hD.sub (ws' := [(qt, .inl (ct, 256, .inl (pw tx n ka)))]) [1] (by decide) rfl)) rfl rfl hl.1 rfl (lv_room (Nat.le_of_ble_eq_true rfl)) dX1_put_40 ⟨Nat.le_of_ble_eq_true rfl, Nat.le_of_ble_eq_true rfl⟩) hP hD hK hS hA [1] [0] rfl rfl (by decide) (by decide) (fun u_7 H locs h_6 hP hD hK hS => ?_)
    have hP : va_P D vwCl [(h0, .inr (1, [.ref qt, .int (nI n), v2, .int f3])), (qt, .inl (ct, 256, .inl (pw (pw tx n ka) (n + 4) kb)))] H := hP
    have hD : va_D A [(h0, .inr (1, [.ref qt, .int (nI n), v2, .int f3])), (qt, .inl (ct, 256, .inl (pw (pw tx n ka) (n + 4) kb)))] := hD
    have hK := hK.sub (tys' := [(ct, .byte)]) [0] rfl
    refine lv_aload_n hx hb dX1_put_43 rfl (lv_at hl 0 rfl) ?_
    refine va_get (D := D) (ci := 1) (v := .ref qt) (C := RX1) (T := TX1) (N := 4) hx hb hts in_X1 hown hK hP 0 rfl rfl 0 (by decide) (hts _ q32) (fun _ h9 => h9) rfl dX1_put_44 ?_
    refine lv_aload_n hx hb dX1_put_47 rfl (lv_at hl 0 rfl) ?_
    refine va_get (D := D) (ci := 1) (v := .int (nI n)) (C := RX1) (T := TX1) (N := 4) hx hb hts in_X1 hown hK hP 0 rfl rfl 1 (by decide) (hts _ q33) (fun _ h9 => h9) rfl dX1_put_48 ?_
    refine lv_bipush (v := 8) hx hb dX1_put_51 (by decide) ?_
    refine lv_iadd hx hb dX1_put_53 ?_
    refine hk_ti (y := nI (n + 8)) (nI_inc n 8 rfl) ?_
    refine lv_iload_n hx hb dX1_put_54 rfl (lv_at hl 3 rfl) ?_
    refine hk_cv (wr := [(h0, .inr (1, [.ref qt, .int (nI n), v2, .int f3]))]) (va_runS (As := [.ref qt, .int (nI (n + 8)), .int kc]) (rest := []) ⟨hx, hb, hml, hown, hts⟩ (met_pw l D H.size qt ct (pw (pw tx n ka) (n + 4) kb) (n + 8) kc (by omega)) (va_cwS 3 hts (lw_S q50 q51 q7 q52) rfl rfl rfl (by decide +kernel) ⟨Nat.le_of_ble_eq_true rfl, Nat.le_of_ble_eq_true rfl⟩) (hk_BS (hP.sub (ws' := [(qt, .inl (ct, 256, .inl (pw (pw tx n ka) (n + 4) kb)))]) [1] rfl) (hK.sub (tys' := [(ct, .byte)]) [0] rfl) hN (hD.sub (ws' := [(qt, .inl (ct, 256, .inl (pw (pw tx n ka) (n + 4) kb)))]) [1] (by decide) rfl)) rfl rfl hl.1 rfl (lv_room (Nat.le_of_ble_eq_true rfl)) dX1_put_55 ⟨Nat.le_of_ble_eq_true rfl, Nat.le_of_ble_eq_true rfl⟩) hP hD hK hS hA [1] [0] rfl rfl (by decide) (by decide) (fun u_10 H locs h_9 hP hD hK hS => ?_)
    have hP : va_P D vwCl [(h0, .inr (1, [.ref qt, .int (nI n), v2, .int f3])), (qt, .inl (ct, 256, .inl (pw (pw (pw tx n ka) (n + 4) kb) (n + 8) kc)))] H := hP
    have hD : va_D A [(h0, .inr (1, [.ref qt, .int (nI n), v2, .int f3])), (qt, .inl (ct, 256, .inl (pw (pw (pw tx n ka) (n + 4) kb) (n + 8) kc)))] := hD
    have hK := hK.sub (tys' := [(ct, .byte)]) [0] rfl
    refine lv_aload_n hx hb dX1_put_58 rfl (lv_at hl 0 rfl) ?_
    refine va_get (D := D) (ci := 1) (v := .ref qt) (C := RX1) (T := TX1) (N := 4) hx hb hts in_X1 hown hK hP 0 rfl rfl 0 (by decide) (hts _ q32) (fun _ h9 => h9) rfl dX1_put_59 ?_
    refine lv_aload_n hx hb dX1_put_62 rfl (lv_at hl 0 rfl) ?_
    refine va_get (D := D) (ci := 1) (v := .int (nI n)) (C := RX1) (T := TX1) (N := 4) hx hb hts in_X1 hown hK hP 0 rfl rfl 1 (by decide) (hts _ q33) (fun _ h9 => h9) rfl dX1_put_63 ?_
    refine lv_bipush (v := 12) hx hb dX1_put_66 (by decide) ?_
    refine lv_iadd hx hb dX1_put_68 ?_
    refine hk_ti (y := nI (n + 12)) (nI_inc n 12 rfl) ?_
    refine lv_iload hx hb dX1_put_69 (lv_at hl 4 rfl) ?_
    refine hk_cv (wr := [(h0, .inr (1, [.ref qt, .int (nI n), v2, .int f3]))]) (va_runS (As := [.ref qt, .int (nI (n + 12)), .int kd]) (rest := []) ⟨hx, hb, hml, hown, hts⟩ (met_pw l D H.size qt ct (pw (pw (pw tx n ka) (n + 4) kb) (n + 8) kc) (n + 12) kd (by omega)) (va_cwS 3 hts (lw_S q50 q51 q7 q52) rfl rfl rfl (by decide +kernel) ⟨Nat.le_of_ble_eq_true rfl, Nat.le_of_ble_eq_true rfl⟩) (hk_BS (hP.sub (ws' := [(qt, .inl (ct, 256, .inl (pw (pw (pw tx n ka) (n + 4) kb) (n + 8) kc)))]) [1] rfl) (hK.sub (tys' := [(ct, .byte)]) [0] rfl) hN (hD.sub (ws' := [(qt, .inl (ct, 256, .inl (pw (pw (pw tx n ka) (n + 4) kb) (n + 8) kc)))]) [1] (by decide) rfl)) rfl rfl hl.1 rfl (lv_room (Nat.le_of_ble_eq_true rfl)) dX1_put_71 ⟨Nat.le_of_ble_eq_true rfl, Nat.le_of_ble_eq_true rfl⟩) hP hD hK hS hA [1] [0] rfl rfl (by decide) (by decide) (fun u_13 H locs h_12 hP hD hK hS => ?_)
    have hP : va_P D vwCl [(h0, .inr (1, [.ref qt, .int (nI n), v2, .int f3])), (qt, .inl (ct, 256, .inl (pw (pw (pw (pw tx n ka) (n + 4) kb) (n + 8) kc) (n + 12) kd)))] H := hP
    have hD : va_D A [(h0, .inr (1, [.ref qt, .int (nI n), v2, .int f3])), (qt, .inl (ct, 256, .inl (pw (pw (pw (pw tx n ka) (n + 4) kb) (n + 8) kc) (n + 12) kd)))] := hD
    have hK := hK.sub (tys' := [(ct, .byte)]) [0] rfl
    refine lv_aload_n hx hb dX1_put_74 rfl (lv_at hl 0 rfl) ?_
    refine lv_dup hx hb dX1_put_75 rfl ?_
    refine va_get (D := D) (ci := 1) (v := .int (nI n)) (C := RX1) (T := TX1) (N := 4) hx hb hts in_X1 hown hK hP 0 rfl rfl 1 (by decide) (hts _ q33) (fun _ h9 => h9) rfl dX1_put_76 ?_
    refine lv_bipush (v := 16) hx hb dX1_put_79 (by decide) ?_
    refine lv_iadd hx hb dX1_put_81 ?_
    refine hk_ti (y := nI (n + 16)) (nI_inc n 16 rfl) ?_
    refine va_put (D := D) (ci := 1) (v := .int (nI (n + 16))) (ty := .int) (C := RX1) (T := TX1) (N := 4) hx hb hts in_X1 tyX1 tyX1_ok nmX1 hown hK hP hD hS 0 rfl rfl 1 (by decide) (hts _ q33) (fun _ h9 => h9) rfl (by decide +kernel) rfl rfl (Nat.le_of_ble_eq_true rfl) dX1_put_82 (fun H locs hP hD hS => ?_)
    have hP : va_P D vwCl [(h0, .inr (1, [.ref qt, .int (nI (n + 16)), v2, .int f3])), (qt, .inl (ct, 256, .inl (pw (pw (pw (pw tx n ka) (n + 4) kb) (n + 8) kc) (n + 12) kd)))] H := hP
    have hD : va_D A [(h0, .inr (1, [.ref qt, .int (nI (n + 16)), v2, .int f3])), (qt, .inl (ct, 256, .inl (pw (pw (pw (pw tx n ka) (n + 4) kb) (n + 8) kc) (n + 12) kd)))] := hD
    refine lv_iconst (v := 1) hx hb dX1_put_85 (by decide) ?_
    have hP9 := hP.sub (ws' := [(h0, .inr (1, [.ref qt, .int (nI (n + 16)), v2, .int f3])), (qt, .inl (ct, 256, .inl (pw (pw (pw (pw tx n ka) (n + 4) kb) (n + 8) kc) (n + 12) kd)))]) [0, 1] rfl
    have hD9 := hD.sub (ws' := [(h0, .inr (1, [.ref qt, .int (nI (n + 16)), v2, .int f3])), (qt, .inl (ct, 256, .inl (pw (pw (pw (pw tx n ka) (n + 4) kb) (n + 8) kc) (n + 12) kd)))]) [0, 1] (by decide) rfl
    have hK9 := hK.sub (tys' := [(ct, .byte)]) [0] rfl
    refine W.widen (k := 0) (n := 0) (by omega) (by omega) ?_
    exact W.zret (v := 1) hx hb hr rfl (fun t ht hW => ⟨⟨_, (putf tx n ka kb kc kd, n + 16), rfl, Or.inl ⟨hle, rfl, rfl⟩, hk_at ht hW hP9 hK9 hD9⟩, hS.F ht⟩) hS.2.2 dX1_put_86
  · have hgt := lt_of_nle (by omega) (by omega) c_1
    refine lv_iconst (v := 0) hx hb dX1_put_15 (by decide) ?_
    have hP9 := hP.sub (ws' := [(h0, .inr (1, [.ref qt, .int (nI n), v2, .int f3])), (qt, .inl (ct, 256, .inl tx))]) [0, 1] rfl
    have hD9 := hD.sub (ws' := [(h0, .inr (1, [.ref qt, .int (nI n), v2, .int f3])), (qt, .inl (ct, 256, .inl tx))]) [0, 1] (by decide) rfl
    have hK9 := hK.sub (tys' := [(ct, .byte)]) [0] rfl
    exact W.zret (v := 0) hx hb hr rfl (fun t ht hW => ⟨⟨_, (tx, n), rfl, Or.inr ⟨hgt, rfl, rfl⟩, hk_at ht hW hP9 hK9 hD9⟩, hS.F ht⟩) hS.2.2 dX1_put_16
set_option maxHeartbeats 4000000 in
set_option maxRecDepth 100000 in
/-- trim -/
theorem met_tr (l : Launch) (D : va_G) (sz : Nat) (h0 n : Nat) (v0 v2 : Value) (f3 x : Int32) (hn : n ≤ 256) : Met l yX1_trim (ws_ yX1_trim cX1_trim 2 none) ({ frames := 1, cells := 0, slots := 0, locals := 21 }) (va_Pc [.ref h0, .int x] (hk_B D [(h0, .inr (1, [v0, .int (nI n), v2, .int f3]))] [] sz)) (va_Qv (S := Unit) (fun _ => True) (fun u => hk_E D ([(h0, .inr (1, [v0, .int (nI (mdN x (n + 1))), v2, .int f3]))]) ([]) (va_A [(h0, .inr (1, [v0, .int (nI n), v2, .int f3]))] sz)) (va_A [(h0, .inr (1, [v0, .int (nI n), v2, .int f3]))] sz)) 0 0 (va_A [(h0, .inr (1, [v0, .int (nI n), v2, .int f3]))] sz) := by
  refine Met.ofW (cc := cX1_trim) (maxL := 2) (ret := none) (by decide +kernel) rfl ?_
  intro p e s m args below meth c s₁ B hml hv
  obtain ⟨rfl, hsz, hP, hK, hD0, hN⟩ := hv
  have hx := B.exec
  have hb := B.bytes
  have hr := B.returns
  have hts := atoms_spec (ws := (ws_ yX1_trim cX1_trim 2 none)) B.pre
  have hts : ∀ w ∈ lw_all, w.before _ s = true := fun w h => hts w (List.mem_cons_of_mem _ h)
  have hown : s.vm.findClass RX1 = some m.cls := findClass_of_methodNamed B.named
  have hlocks := B.notSynchronized
  subst hsz
  have hD := hD0.self (sz := s.heap.size)
  generalize hAe : va_A [(h0, .inr (1, [v0, .int (nI n), v2, .int f3]))] s.heap.size = A at hD ⊢
  have hA : ∀ q : Nat, s.heap.size ≤ q → A q := fun q h => by rw [← hAe]; exact Or.inr h
  have hS : va_S A s.heap s.heap [] := va_S.rf
  have hP : va_P D vwCl [(h0, .inr (1, [v0, .int (nI n), v2, .int f3]))] s.heap := hP
  have hl := lv_entry ([.ref h0, .int x]) (n := 2) (Nat.le_of_ble_eq_true rfl)
  rw [lg_entry_eq]
  generalize (lg_sl ([.ref h0, .int x]) ++ List.replicate (2 - (lg_sl ([.ref h0, .int x])).length) Slot.unset).toArray = ls at hl ⊢
  have hl : lv_has ls 2 [(0, .ref h0), (1, .int x)] := hl
  refine lv_aload_n hx hb dX1_trim_0 rfl (lv_at hl 0 rfl) ?_
  refine lv_aload_n hx hb dX1_trim_1 rfl (lv_at hl 0 rfl) ?_
  refine lv_iload_n hx hb dX1_trim_2 rfl (lv_at hl 1 rfl) ?_
  refine vp_callSi (va_Run.run (va_runV (As := [.int x]) (rest := [.ref h0]) ⟨hx, hb, hml, hown, hts⟩ (met_fr l D h0 n v0 v2 f3 (by omega) x) (cwV 1 hts (lw_V q57 q59 qs0 q7 q60) rfl rfl rfl (by decide +kernel) ⟨Nat.le_of_ble_eq_true rfl, Nat.le_of_ble_eq_true rfl⟩) (hk_CV (hP.sub (ws' := [(h0, .inr (1, [v0, .int (nI n), v2, .int f3]))]) [0] rfl) (hK.sub (tys' := []) [] rfl) hN (va_recv hK hP (ci := 1) (q0 := 0) rfl rfl)) rfl rfl hl.1 rfl (lv_room (Nat.le_of_ble_eq_true rfl)) dX1_trim_3 ⟨Nat.le_of_ble_eq_true rfl, Nat.le_of_ble_eq_true rfl⟩)) (fun r_1 hr_1 => ?_)
  obtain rfl : r_1 = nI (mdN x (n + 1)) := hr_1
  refine va_put (D := D) (ci := 1) (v := .int (nI (mdN x (n + 1)))) (ty := .int) (C := RX1) (T := TX1) (N := 4) hx hb hts in_X1 tyX1 tyX1_ok nmX1 hown hK hP hD hS 0 rfl rfl 1 (by decide) (hts _ q33) (fun _ h9 => h9) rfl (by decide +kernel) rfl rfl (Nat.le_of_ble_eq_true rfl) dX1_trim_6 (fun H locs hP hD hS => ?_)
  have hP : va_P D vwCl [(h0, .inr (1, [v0, .int (nI (mdN x (n + 1))), v2, .int f3]))] H := hP
  have hD : va_D A [(h0, .inr (1, [v0, .int (nI (mdN x (n + 1))), v2, .int f3]))] := hD
  have hP9 := hP.sub (ws' := [(h0, .inr (1, [v0, .int (nI (mdN x (n + 1))), v2, .int f3]))]) [0] rfl
  have hD9 := hD.sub (ws' := [(h0, .inr (1, [v0, .int (nI (mdN x (n + 1))), v2, .int f3]))]) [0] (by decide) rfl
  have hK9 := hK.sub (tys' := []) [] rfl
  exact W.vret hx hb hr (fun t ht hW => ⟨⟨(), rfl, trivial, hk_at ht hW hP9 hK9 hD9⟩, hS.F ht⟩) hS.2.2 dX1_trim_9
set_option maxHeartbeats 4000000 in
set_option maxRecDepth 100000 in
/-- begin -/
theorem met_bg (l : Launch) (D : va_G) (sz : Nat) (h0 : Nat) (v0 v2 : Value) (v1 f3 x : Int32) : Met l yX1_begin (ws_ yX1_begin cX1_begin 2 none) ({ frames := 4, cells := 2, slots := 7, locals := 73 }) (va_Pc [.ref h0, .int x] (hk_B D [(h0, .inr (1, [v0, .int v1, v2, .int f3]))] [] sz)) (va_Qv (S := Nat) (fun _ => True) (fun u => hk_E D ([(h0, .inr (1, [v0, .int v1, .ref u, .int 0])), (u, .inr (4, [.int x, .long 0, .int 0, .int 0, .int 0]))]) ([]) (va_A [(h0, .inr (1, [v0, .int v1, v2, .int f3]))] sz)) (va_A [(h0, .inr (1, [v0, .int v1, v2, .int f3]))] sz)) 2 7 (va_A [(h0, .inr (1, [v0, .int v1, v2, .int f3]))] sz) := by
  refine Met.ofW (cc := cX1_begin) (maxL := 2) (ret := none) (by decide +kernel) rfl ?_
  intro p e s m args below meth c s₁ B hml hv
  obtain ⟨rfl, hsz, hP, hK, hD0, hN⟩ := hv
  have hx := B.exec
  have hb := B.bytes
  have hr := B.returns
  have hts := atoms_spec (ws := (ws_ yX1_begin cX1_begin 2 none)) B.pre
  have hts : ∀ w ∈ lw_all, w.before _ s = true := fun w h => hts w (List.mem_cons_of_mem _ h)
  have hown : s.vm.findClass RX1 = some m.cls := findClass_of_methodNamed B.named
  have hlocks := B.notSynchronized
  subst hsz
  have hD := hD0.self (sz := s.heap.size)
  generalize hAe : va_A [(h0, .inr (1, [v0, .int v1, v2, .int f3]))] s.heap.size = A at hD ⊢
  have hA : ∀ q : Nat, s.heap.size ≤ q → A q := fun q h => by rw [← hAe]; exact Or.inr h
  have hS : va_S A s.heap s.heap [] := va_S.rf
  have hP : va_P D vwCl [(h0, .inr (1, [v0, .int v1, v2, .int f3]))] s.heap := hP
  have hl := lv_entry ([.ref h0, .int x]) (n := 2) (Nat.le_of_ble_eq_true rfl)
  rw [lg_entry_eq]
  generalize (lg_sl ([.ref h0, .int x]) ++ List.replicate (2 - (lg_sl ([.ref h0, .int x])).length) Slot.unset).toArray = ls at hl ⊢
  have hl : lv_has ls 2 [(0, .ref h0), (1, .int x)] := hl
  refine lv_aload_n hx hb dX1_begin_0 rfl (lv_at hl 0 rfl) ?_
  refine va_new (ci := 2) (fs := [.int 0, .int 0]) (C := RX3) (T := TX3) (N := 2) hx hb hts in_X3 tyX3 tyX3_ok hown (hts _ q66) (hts _ q67) (hts _ q9) hK hP hD hS hA rfl (fun j hj => by rcases (show j = 0 ∨ j = 1 by omega) with rfl | rfl <;> rfl) (Nat.le_of_ble_eq_true rfl) (Nat.le_of_ble_eq_true rfl) dX1_begin_1 (fun q0 H hP hD hS => ?_)
  have hP : va_P D vwCl [(h0, .inr (1, [v0, .int v1, v2, .int f3])), (q0, .inr (2, [.int 0, .int 0]))] H := hP
  have hD : va_D A [(h0, .inr (1, [v0, .int v1, v2, .int f3])), (q0, .inr (2, [.int 0, .int 0]))] := hD
  refine lv_dup hx hb dX1_begin_4 rfl ?_
  refine lv_iload_n hx hb dX1_begin_5 rfl (lv_at hl 1 rfl) ?_
  refine lv_iconst (v := 1) hx hb dX1_begin_6 (by decide) ?_
  refine hk_cv (wr := [(h0, .inr (1, [v0, .int v1, v2, .int f3]))]) (va_runI (As := [.int x, .int 1]) (rest := [.ref q0, .ref h0]) ⟨hx, hb, hml, hown, hts⟩ (met_in l D H.size q0 0 0 x) (cwI 2 hts (lw_meth q70) rfl rfl rfl (hts _ q9) (hts _ q68) (hts _ q69) rfl (by decide +kernel) ⟨Nat.le_of_ble_eq_true rfl, Nat.le_of_ble_eq_true rfl⟩) (hk_BS (hP.sub (ws' := [(q0, .inr (2, [.int 0, .int 0]))]) [1] rfl) (hK.sub (tys' := []) [] rfl) hN (hD.sub (ws' := [(q0, .inr (2, [.int 0, .int 0]))]) [1] (by decide) rfl)) rfl rfl hl.1 rfl (lv_room (Nat.le_of_ble_eq_true rfl)) dX1_begin_7 ⟨Nat.le_of_ble_eq_true rfl, Nat.le_of_ble_eq_true rfl⟩) hP hD hK hS hA [1] [0] rfl rfl (by decide) (by decide) (fun u_3 H locs h_2 hP hD hK hS => ?_)
  have hP : va_P D vwCl [(h0, .inr (1, [v0, .int v1, v2, .int f3])), (q0, .inr (2, [.int x, .int 1]))] H := hP
  have hD : va_D A [(h0, .inr (1, [v0, .int v1, v2, .int f3])), (q0, .inr (2, [.int x, .int 1]))] := hD
  have hK : va_K D vwCl [] s := hK
  refine hk_cr (wr := [(h0, .inr (1, [v0, .int v1, v2, .int f3]))]) (va_runV (As := []) (rest := [.ref h0]) ⟨hx, hb, hml, hown, hts⟩ (met_nh l D H.size q0 x 1) (cwV 0 hts (lw_V q82 q83 q84 q9 q85) rfl rfl rfl (by decide +kernel) ⟨Nat.le_of_ble_eq_true rfl, Nat.le_of_ble_eq_true rfl⟩) (hk_BV (hP.sub (ws' := [(q0, .inr (2, [.int x, .int 1]))]) [1] rfl) (hK.sub (tys' := []) [] rfl) hN (hD.sub (ws' := [(q0, .inr (2, [.int x, .int 1]))]) [1] (by decide) rfl) (va_recv hK hP (ci := 2) (q0 := 1) rfl rfl)) rfl rfl hl.1 rfl (lv_room (Nat.le_of_ble_eq_true rfl)) dX1_begin_10 ⟨Nat.le_of_ble_eq_true rfl, Nat.le_of_ble_eq_true rfl⟩) hP hD hK hS hA [1] [0] rfl rfl (by decide) (by decide) (fun u_6 q1 H locs h_5 hP hD hK hS => ?_)
  have hP : va_P D vwCl [(h0, .inr (1, [v0, .int v1, v2, .int f3])), (q0, .inr (2, [.int x, .int 1])), (q1, .inr (4, [.int x, .long 0, .int 0, .int 0, .int 0]))] H := hP
  have hD : va_D A [(h0, .inr (1, [v0, .int v1, v2, .int f3])), (q0, .inr (2, [.int x, .int 1])), (q1, .inr (4, [.int x, .long 0, .int 0, .int 0, .int 0]))] := hD
  have hK : va_K D vwCl [] s := hK
  refine va_put (D := D) (ci := 1) (v := .ref q1) (ty := .object "Hasher") (C := RX1) (T := TX1) (N := 4) hx hb hts in_X1 tyX1 tyX1_ok nmX1 hown hK hP hD hS 0 rfl rfl 2 (by decide) (hts _ q34) (fun _ h9 => h9) rfl (by decide +kernel) rfl rfl (Nat.le_of_ble_eq_true rfl) dX1_begin_13 (fun H locs hP hD hS => ?_)
  have hP : va_P D vwCl [(h0, .inr (1, [v0, .int v1, .ref q1, .int f3])), (q0, .inr (2, [.int x, .int 1])), (q1, .inr (4, [.int x, .long 0, .int 0, .int 0, .int 0]))] H := hP
  have hD : va_D A [(h0, .inr (1, [v0, .int v1, .ref q1, .int f3])), (q0, .inr (2, [.int x, .int 1])), (q1, .inr (4, [.int x, .long 0, .int 0, .int 0, .int 0]))] := hD
  refine lv_aload_n hx hb dX1_begin_16 rfl (lv_at hl 0 rfl) ?_
  refine lv_iconst (v := 0) hx hb dX1_begin_17 (by decide) ?_
  refine va_put (D := D) (ci := 1) (v := .int 0) (ty := .int) (C := RX1) (T := TX1) (N := 4) hx hb hts in_X1 tyX1 tyX1_ok nmX1 hown hK hP hD hS 0 rfl rfl 3 (by decide) (hts _ q35) (fun _ h9 => h9) rfl (by decide +kernel) rfl rfl (Nat.le_of_ble_eq_true rfl) dX1_begin_18 (fun H locs hP hD hS => ?_)
  have hP : va_P D vwCl [(h0, .inr (1, [v0, .int v1, .ref q1, .int 0])), (q0, .inr (2, [.int x, .int 1])), (q1, .inr (4, [.int x, .long 0, .int 0, .int 0, .int 0]))] H := hP
  have hD : va_D A [(h0, .inr (1, [v0, .int v1, .ref q1, .int 0])), (q0, .inr (2, [.int x, .int 1])), (q1, .inr (4, [.int x, .long 0, .int 0, .int 0, .int 0]))] := hD
  have hP9 := hP.sub (ws' := [(h0, .inr (1, [v0, .int v1, .ref q1, .int 0])), (q1, .inr (4, [.int x, .long 0, .int 0, .int 0, .int 0]))]) [0, 2] rfl
  have hD9 := hD.sub (ws' := [(h0, .inr (1, [v0, .int v1, .ref q1, .int 0])), (q1, .inr (4, [.int x, .long 0, .int 0, .int 0, .int 0]))]) [0, 2] (by decide) rfl
  have hK9 := hK.sub (tys' := []) [] rfl
  refine W.widen (k := 2) (n := 7) (by omega) (by omega) ?_
  exact W.vret hx hb hr (fun t ht hW => ⟨⟨q1, rfl, trivial, hk_at ht hW hP9 hK9 hD9⟩, hS.F ht⟩) hS.2.2 dX1_begin_21
set_option maxHeartbeats 4000000 in
set_option maxRecDepth 100000 in
/-- feed: a run is fed, or not -/
theorem met_fe (l : Launch) (D : va_G) (sz : Nat) (h0 qt qh n : Nat) (ct : ClassId) (tx : Nat → Int32) (rv : Value) (e0 : va_E) (fd : Int32) (r : hk_R) (x y : Int32) (hn : n ≤ 256) (hR : dkr rv qh e0 fd r) : Met l yX1_feed (ws_ yX1_feed cX1_feed 5 (some .boolean)) ({ frames := 5, cells := 0, slots := 0, locals := 110 }) (va_Pc [.ref h0, .int x, .int y] (hk_B D [(h0, .inr (1, [.ref qt, .int (nI n), rv, .int fd])), (qt, .inl (ct, 256, .inl tx)), (qh, e0)] [(ct, .byte)] sz)) (va_Qi (S := (Int32 × va_E)) (fun z u => fedP rv qh e0 fd r (mdN y (n - mdN x (n + 1) + 1)) (fun j => uN (tx (mdN x (n + 1) + j))) z u) (fun u => hk_E D ([(h0, .inr (1, [.ref qt, .int (nI n), rv, .int u.1])), (qt, .inl (ct, 256, .inl tx)), (qh, u.2)]) ([(ct, .byte)]) (va_A [(h0, .inr (1, [.ref qt, .int (nI n), rv, .int fd])), (qt, .inl (ct, 256, .inl tx)), (qh, e0)] sz)) (va_A [(h0, .inr (1, [.ref qt, .int (nI n), rv, .int fd])), (qt, .inl (ct, 256, .inl tx)), (qh, e0)] sz)) 0 0 (va_A [(h0, .inr (1, [.ref qt, .int (nI n), rv, .int fd])), (qt, .inl (ct, 256, .inl tx)), (qh, e0)] sz) := by
  refine Met.ofW (cc := cX1_feed) (maxL := 5) (ret := (some .boolean)) (by decide +kernel) rfl ?_
  intro p e s m args below meth c s₁ B hml hv
  obtain ⟨rfl, hsz, hP, hK, hD0, hN⟩ := hv
  have hx := B.exec
  have hb := B.bytes
  have hr := B.returns
  have hts := atoms_spec (ws := (ws_ yX1_feed cX1_feed 5 (some .boolean))) B.pre
  have hts : ∀ w ∈ lw_all, w.before _ s = true := fun w h => hts w (List.mem_cons_of_mem _ h)
  have hown : s.vm.findClass RX1 = some m.cls := findClass_of_methodNamed B.named
  have hlocks := B.notSynchronized
  subst hsz
  have hD := hD0.self (sz := s.heap.size)
  generalize hAe : va_A [(h0, .inr (1, [.ref qt, .int (nI n), rv, .int fd])), (qt, .inl (ct, 256, .inl tx)), (qh, e0)] s.heap.size = A at hD ⊢
  have hA : ∀ q : Nat, s.heap.size ≤ q → A q := fun q h => by rw [← hAe]; exact Or.inr h
  have hS : va_S A s.heap s.heap [] := va_S.rf
  have hP : va_P D vwCl [(h0, .inr (1, [.ref qt, .int (nI n), rv, .int fd])), (qt, .inl (ct, 256, .inl tx)), (qh, e0)] s.heap := hP
  have hl := lv_entry ([.ref h0, .int x, .int y]) (n := 5) (Nat.le_of_ble_eq_true rfl)
  rw [lg_entry_eq]
  generalize (lg_sl ([.ref h0, .int x, .int y]) ++ List.replicate (5 - (lg_sl ([.ref h0, .int x, .int y])).length) Slot.unset).toArray = ls at hl ⊢
  have hl : lv_has ls 5 [(0, .ref h0), (1, .int x), (2, .int y)] := hl
  cases r with
  | none =>
    have hR : rv = .null := hR
    subst hR
    have hin := md_in x y n
    refine lv_aload_n hx hb dX1_feed_0 rfl (lv_at hl 0 rfl) ?_
    refine lv_iload_n hx hb dX1_feed_1 rfl (lv_at hl 1 rfl) ?_
    refine vp_callSi (va_Run.run (va_runV (As := [.int x]) (rest := []) ⟨hx, hb, hml, hown, hts⟩ (met_fr l D h0 n (.ref qt) .null fd (by omega) x) (cwV 1 hts (lw_V q57 q59 qs0 q7 q60) rfl rfl rfl (by decide +kernel) ⟨Nat.le_of_ble_eq_true rfl, Nat.le_of_ble_eq_true rfl⟩) (hk_CV (hP.sub (ws' := [(h0, .inr (1, [.ref qt, .int (nI n), .null, .int fd]))]) [0] rfl) (hK.sub (tys' := []) [] rfl) hN (va_recv hK hP (ci := 1) (q0 := 0) rfl rfl)) rfl rfl hl.1 rfl (lv_room (Nat.le_of_ble_eq_true rfl)) dX1_feed_2 ⟨Nat.le_of_ble_eq_true rfl, Nat.le_of_ble_eq_true rfl⟩)) (fun r_1 hr_1 => ?_)
    obtain rfl : r_1 = nI (mdN x (n + 1)) := hr_1
    refine lv_istore_n (lv' := [(3, .int (nI (mdN x (n + 1)))), (0, .ref h0), (1, .int x), (2, .int y)]) hx hb dX1_feed_5 rfl hl (by decide) rfl (fun ls hl => ?_)
    refine lv_aload_n hx hb dX1_feed_6 rfl (lv_at hl 1 rfl) ?_
    refine lv_iload_n hx hb dX1_feed_7 rfl (lv_at hl 0 rfl) ?_
    refine lv_iload_n hx hb dX1_feed_8 rfl (lv_at hl 3 rfl) ?_
    refine vp_callSi (va_Run.run (va_runV (As := [.int (nI (mdN x (n + 1))), .int y]) (rest := []) ⟨hx, hb, hml, hown, hts⟩ (met_ct l D h0 n (.ref qt) .null fd (by omega) (mdN x (n + 1)) (mdN_le x n) y) (cwV 2 hts (lw_V q115 q117 qs1 q7 q118) rfl rfl rfl (by decide +kernel) ⟨Nat.le_of_ble_eq_true rfl, Nat.le_of_ble_eq_true rfl⟩) (hk_CV (hP.sub (ws' := [(h0, .inr (1, [.ref qt, .int (nI n), .null, .int fd]))]) [0] rfl) (hK.sub (tys' := []) [] rfl) hN (va_recv hK hP (ci := 1) (q0 := 0) rfl rfl)) rfl rfl hl.1 rfl (lv_room (Nat.le_of_ble_eq_true rfl)) dX1_feed_9 ⟨Nat.le_of_ble_eq_true rfl, Nat.le_of_ble_eq_true rfl⟩)) (fun r_2 hr_2 => ?_)
    obtain rfl : r_2 = nI (mdN y (n - mdN x (n + 1) + 1)) := hr_2
    refine lv_istore (lv' := [(4, .int (nI (mdN y (n - mdN x (n + 1) + 1)))), (3, .int (nI (mdN x (n + 1)))), (0, .ref h0), (1, .int x), (2, .int y)]) hx hb dX1_feed_12 hl (by decide) rfl (fun ls hl => ?_)
    refine lv_aload_n hx hb dX1_feed_14 rfl (lv_at hl 2 rfl) ?_
    refine va_get (D := D) (ci := 1) (v := .null) (C := RX1) (T := TX1) (N := 4) hx hb hts in_X1 hown hK hP 0 rfl rfl 2 (by decide) (hts _ q34) (fun _ h9 => h9) rfl dX1_feed_15 ?_
    refine lv_ifnullN (tgt := 34) hx hb dX1_feed_18 (by decide) ?_
    refine lv_iconst (v := 0) hx hb dX1_feed_34 (by decide) ?_
    have hP9 := hP.sub (ws' := [(h0, .inr (1, [.ref qt, .int (nI n), .null, .int fd])), (qt, .inl (ct, 256, .inl tx)), (qh, e0)]) [0, 1, 2] rfl
    have hD9 := hD.sub (ws' := [(h0, .inr (1, [.ref qt, .int (nI n), .null, .int fd])), (qt, .inl (ct, 256, .inl tx)), (qh, e0)]) [0, 1, 2] (by decide) rfl
    have hK9 := hK.sub (tys' := [(ct, .byte)]) [0] rfl
    exact W.zret (v := 0) hx hb hr rfl (fun t ht hW => ⟨⟨_, (fd, e0), rfl, ⟨rfl, rfl⟩, hk_at ht hW hP9 hK9 hD9⟩, hS.F ht⟩) hS.2.2 dX1_feed_35
  | some r =>
    obtain ⟨seed, d, k⟩ := r
    obtain ⟨hR1, hR2, hk, h1, buf, sh, hR3, hH⟩ := hR
    subst hR1 hR2 hR3
    have hin := md_in x y n
    refine lv_aload_n hx hb dX1_feed_0 rfl (lv_at hl 0 rfl) ?_
    refine lv_iload_n hx hb dX1_feed_1 rfl (lv_at hl 1 rfl) ?_
    refine vp_callSi (va_Run.run (va_runV (As := [.int x]) (rest := []) ⟨hx, hb, hml, hown, hts⟩ (met_fr l D h0 n (.ref qt) (.ref qh) (nI k) (by omega) x) (cwV 1 hts (lw_V q57 q59 qs0 q7 q60) rfl rfl rfl (by decide +kernel) ⟨Nat.le_of_ble_eq_true rfl, Nat.le_of_ble_eq_true rfl⟩) (hk_CV (hP.sub (ws' := [(h0, .inr (1, [.ref qt, .int (nI n), .ref qh, .int (nI k)]))]) [0] rfl) (hK.sub (tys' := []) [] rfl) hN (va_recv hK hP (ci := 1) (q0 := 0) rfl rfl)) rfl rfl hl.1 rfl (lv_room (Nat.le_of_ble_eq_true rfl)) dX1_feed_2 ⟨Nat.le_of_ble_eq_true rfl, Nat.le_of_ble_eq_true rfl⟩)) (fun r_3 hr_3 => ?_)
    obtain rfl : r_3 = nI (mdN x (n + 1)) := hr_3
    refine lv_istore_n (lv' := [(3, .int (nI (mdN x (n + 1)))), (0, .ref h0), (1, .int x), (2, .int y)]) hx hb dX1_feed_5 rfl hl (by decide) rfl (fun ls hl => ?_)
    refine lv_aload_n hx hb dX1_feed_6 rfl (lv_at hl 1 rfl) ?_
    refine lv_iload_n hx hb dX1_feed_7 rfl (lv_at hl 0 rfl) ?_
    refine lv_iload_n hx hb dX1_feed_8 rfl (lv_at hl 3 rfl) ?_
    refine vp_callSi (va_Run.run (va_runV (As := [.int (nI (mdN x (n + 1))), .int y]) (rest := []) ⟨hx, hb, hml, hown, hts⟩ (met_ct l D h0 n (.ref qt) (.ref qh) (nI k) (by omega) (mdN x (n + 1)) (mdN_le x n) y) (cwV 2 hts (lw_V q115 q117 qs1 q7 q118) rfl rfl rfl (by decide +kernel) ⟨Nat.le_of_ble_eq_true rfl, Nat.le_of_ble_eq_true rfl⟩) (hk_CV (hP.sub (ws' := [(h0, .inr (1, [.ref qt, .int (nI n), .ref qh, .int (nI k)]))]) [0] rfl) (hK.sub (tys' := []) [] rfl) hN (va_recv hK hP (ci := 1) (q0 := 0) rfl rfl)) rfl rfl hl.1 rfl (lv_room (Nat.le_of_ble_eq_true rfl)) dX1_feed_9 ⟨Nat.le_of_ble_eq_true rfl, Nat.le_of_ble_eq_true rfl⟩)) (fun r_4 hr_4 => ?_)
    obtain rfl : r_4 = nI (mdN y (n - mdN x (n + 1) + 1)) := hr_4
    refine lv_istore (lv' := [(4, .int (nI (mdN y (n - mdN x (n + 1) + 1)))), (3, .int (nI (mdN x (n + 1)))), (0, .ref h0), (1, .int x), (2, .int y)]) hx hb dX1_feed_12 hl (by decide) rfl (fun ls hl => ?_)
    refine lv_aload_n hx hb dX1_feed_14 rfl (lv_at hl 2 rfl) ?_
    refine va_get (D := D) (ci := 1) (v := .ref qh) (C := RX1) (T := TX1) (N := 4) hx hb hts in_X1 hown hK hP 0 rfl rfl 2 (by decide) (hts _ q34) (fun _ h9 => h9) rfl dX1_feed_15 ?_
    refine lv_ifnull hx hb dX1_feed_18 ?_
    refine lv_aload_n hx hb dX1_feed_21 rfl (lv_at hl 2 rfl) ?_
    refine va_get (D := D) (ci := 1) (v := .int (nI k)) (C := RX1) (T := TX1) (N := 4) hx hb hts in_X1 hown hK hP 0 rfl rfl 3 (by decide) (hts _ q35) (fun _ h9 => h9) rfl dX1_feed_22 ?_
    refine lv_iload hx hb dX1_feed_25 (lv_at hl 0 rfl) ?_
    refine lv_iadd hx hb dX1_feed_27 ?_
    refine hk_ti (y := nI (k + mdN y (n - mdN x (n + 1) + 1))) (nI_add _ _) ?_
    refine lv_sipush (v := 4096) hx hb dX1_feed_28 (by decide) ?_
    refine lv_icmp_le (tgt := 36) hx hb dX1_feed_31 (by decide) (fun c_5 => ?_) (fun c_5 => ?_)
    · have hle := le_of_nI (b := 4096) (by omega) (by omega) c_5
      refine lv_aload_n hx hb dX1_feed_36 rfl (lv_at hl 2 rfl) ?_
      refine lv_dup hx hb dX1_feed_37 rfl ?_
      refine va_get (D := D) (ci := 1) (v := .int (nI k)) (C := RX1) (T := TX1) (N := 4) hx hb hts in_X1 hown hK hP 0 rfl rfl 3 (by decide) (hts _ q35) (fun _ h9 => h9) rfl dX1_feed_38 ?_
      refine lv_iload hx hb dX1_feed_41 (lv_at hl 0 rfl) ?_
      refine lv_iadd hx hb dX1_feed_43 ?_
      refine hk_ti (y := nI (k + mdN y (n - mdN x (n + 1) + 1))) (nI_add _ _) ?_
      refine va_put (D := D) (ci := 1) (v := .int (nI (k + mdN y (n - mdN x (n + 1) + 1)))) (ty := .int) (C := RX1) (T := TX1) (N := 4) hx hb hts in_X1 tyX1 tyX1_ok nmX1 hown hK hP hD hS 0 rfl rfl 3 (by decide) (hts _ q35) (fun _ h9 => h9) rfl (by decide +kernel) rfl rfl (Nat.le_of_ble_eq_true rfl) dX1_feed_44 (fun H locs hP hD hS => ?_)
      have hP : va_P D vwCl [(h0, .inr (1, [.ref qt, .int (nI n), .ref qh, .int (nI (k + mdN y (n - mdN x (n + 1) + 1)))])), (qt, .inl (ct, 256, .inl tx)), (qh, .inr (4, [.int h1, .long buf, .int sh, .int (nI k), .int 0]))] H := hP
      have hD : va_D A [(h0, .inr (1, [.ref qt, .int (nI n), .ref qh, .int (nI (k + mdN y (n - mdN x (n + 1) + 1)))])), (qt, .inl (ct, 256, .inl tx)), (qh, .inr (4, [.int h1, .long buf, .int sh, .int (nI k), .int 0]))] := hD
      refine lv_aload_n hx hb dX1_feed_47 rfl (lv_at hl 2 rfl) ?_
      refine va_get (D := D) (ci := 1) (v := .ref qh) (C := RX1) (T := TX1) (N := 4) hx hb hts in_X1 hown hK hP 0 rfl rfl 2 (by decide) (hts _ q34) (fun _ h9 => h9) rfl dX1_feed_48 ?_
      refine lv_aload_n hx hb dX1_feed_51 rfl (lv_at hl 2 rfl) ?_
      refine va_get (D := D) (ci := 1) (v := .ref qt) (C := RX1) (T := TX1) (N := 4) hx hb hts in_X1 hown hK hP 0 rfl rfl 0 (by decide) (hts _ q32) (fun _ h9 => h9) rfl dX1_feed_52 ?_
      refine lv_iload_n hx hb dX1_feed_55 rfl (lv_at hl 1 rfl) ?_
      refine lv_iload hx hb dX1_feed_56 (lv_at hl 0 rfl) ?_
      refine hk_cFr (wr := [(h0, .inr (1, [.ref qt, .int (nI n), .ref qh, .int (nI (k + mdN y (n - mdN x (n + 1) + 1)))]))]) (va_runF (C := RX9) (As := [.ref qt, .int (nI (mdN x (n + 1))), .int (nI (mdN y (n - mdN x (n + 1) + 1)))]) (rest := []) (hK.1 4 _ rfl).2 ⟨hx, hb, hml, hown, hts⟩ (met_ps l D H.size qh k seed d h1 buf sh 0 qt 256 ct tx (mdN x (n + 1)) (mdN y (n - mdN x (n + 1) + 1)) (by omega) (by omega) (by omega) hH) (va_cwF (x := yH_putBytes) 3 hts (lw_F (own := RX1) (idx := 48) (C := RX9) (x := yH_putBytes) q120 q124 q126 q23 q128) rfl rfl rfl hN.2.2.2.2.2.1 (by decide +kernel) ⟨Nat.le_of_ble_eq_true rfl, Nat.le_of_ble_eq_true rfl⟩) (hk_BV (hP.sub (ws' := [(qh, .inr (4, [.int h1, .long buf, .int sh, .int (nI k), .int 0])), (qt, .inl (ct, 256, .inl tx))]) [2, 1] rfl) (hK.sub (tys' := [(ct, .byte)]) [0] rfl) hN (hD.sub (ws' := [(qh, .inr (4, [.int h1, .long buf, .int sh, .int (nI k), .int 0])), (qt, .inl (ct, 256, .inl tx))]) [2, 1] (by decide) rfl) (va_recv hK hP (ci := 4) (q0 := 2) rfl rfl)) rfl rfl hl.1 rfl (lv_room (Nat.le_of_ble_eq_true rfl)) dX1_feed_58 ⟨Nat.le_of_ble_eq_true rfl, Nat.le_of_ble_eq_true rfl⟩) hP hD hK hS hA [2, 1] [0] rfl rfl (by decide) (by decide) (fun u q7 H locs hu hP hD hK hS => ?_)
      have hP : va_P D vwCl [(h0, .inr (1, [.ref qt, .int (nI n), .ref qh, .int (nI (k + mdN y (n - mdN x (n + 1) + 1)))])), (qh, .inr (4, [.int u.1, .long u.2.1, .int u.2.2, .int (nI (k + (mdN y (n - mdN x (n + 1) + 1)))), .int 0])), (qt, .inl (ct, 256, .inl tx))] H := hP
      have hD : va_D A [(h0, .inr (1, [.ref qt, .int (nI n), .ref qh, .int (nI (k + mdN y (n - mdN x (n + 1) + 1)))])), (qh, .inr (4, [.int u.1, .long u.2.1, .int u.2.2, .int (nI (k + (mdN y (n - mdN x (n + 1) + 1)))), .int 0])), (qt, .inl (ct, 256, .inl tx))] := hD
      have hK := hK.sub (tys' := [(ct, .byte)]) [0] rfl
      refine lv_pop hx hb dX1_feed_63 rfl ?_
      refine lv_iconst (v := 1) hx hb dX1_feed_64 (by decide) ?_
      have hP9 := hP.sub (ws' := [(h0, .inr (1, [.ref qt, .int (nI n), .ref qh, .int (nI (k + mdN y (n - mdN x (n + 1) + 1)))])), (qt, .inl (ct, 256, .inl tx)), (qh, .inr (4, [.int u.1, .long u.2.1, .int u.2.2, .int (nI (k + (mdN y (n - mdN x (n + 1) + 1)))), .int 0]))]) [0, 2, 1] rfl
      have hD9 := hD.sub (ws' := [(h0, .inr (1, [.ref qt, .int (nI n), .ref qh, .int (nI (k + mdN y (n - mdN x (n + 1) + 1)))])), (qt, .inl (ct, 256, .inl tx)), (qh, .inr (4, [.int u.1, .long u.2.1, .int u.2.2, .int (nI (k + (mdN y (n - mdN x (n + 1) + 1)))), .int 0]))]) [0, 2, 1] (by decide) rfl
      have hK9 := hK.sub (tys' := [(ct, .byte)]) [0] rfl
      refine W.widen (k := 0) (n := 0) (by omega) (by omega) ?_
      exact W.zret (v := 1) hx hb hr rfl (fun t ht hW => ⟨⟨_, (nI (k + (mdN y (n - mdN x (n + 1) + 1))), .inr (4, [.int u.1, .long u.2.1, .int u.2.2, .int (nI (k + (mdN y (n - mdN x (n + 1) + 1)))), .int 0])), rfl, Or.inl ⟨hle, rfl, rfl, rfl, hle, u.1, u.2.1, u.2.2, rfl, hu⟩, hk_at ht hW hP9 hK9 hD9⟩, hS.F ht⟩) hS.2.2 dX1_feed_65
    · have hgt := lt_of_nle (b := 4096) (by omega) (by omega) c_5
      refine lv_iconst (v := 0) hx hb dX1_feed_34 (by decide) ?_
      have hP9 := hP.sub (ws' := [(h0, .inr (1, [.ref qt, .int (nI n), .ref qh, .int (nI k)])), (qt, .inl (ct, 256, .inl tx)), (qh, .inr (4, [.int h1, .long buf, .int sh, .int (nI k), .int 0]))]) [0, 1, 2] rfl
      have hD9 := hD.sub (ws' := [(h0, .inr (1, [.ref qt, .int (nI n), .ref qh, .int (nI k)])), (qt, .inl (ct, 256, .inl tx)), (qh, .inr (4, [.int h1, .long buf, .int sh, .int (nI k), .int 0]))]) [0, 1, 2] (by decide) rfl
      have hK9 := hK.sub (tys' := [(ct, .byte)]) [0] rfl
      exact W.zret (v := 0) hx hb hr rfl (fun t ht hW => ⟨⟨_, (nI k, .inr (4, [.int h1, .long buf, .int sh, .int (nI k), .int 0])), rfl, Or.inr ⟨hgt, rfl, rfl⟩, hk_at ht hW hP9 hK9 hD9⟩, hS.F ht⟩) hS.2.2 dX1_feed_35
set_option maxHeartbeats 4000000 in
set_option maxRecDepth 100000 in
/-- one: a run is fed, or not -/
theorem met_on (l : Launch) (D : va_G) (sz : Nat) (h0 qh n : Nat) (v0 : Value) (rv : Value) (e0 : va_E) (fd : Int32) (r : hk_R) (x : Int32) (hn : n ≤ 256) (hR : dkr rv qh e0 fd r) : Met l yX1_one (ws_ yX1_one cX1_one 2 (some .boolean)) ({ frames := 4, cells := 0, slots := 0, locals := 86 }) (va_Pc [.ref h0, .int x] (hk_B D [(h0, .inr (1, [v0, .int (nI n), rv, .int fd])), (qh, e0)] [] sz)) (va_Qi (S := (Int32 × va_E)) (fun z u => fedP rv qh e0 fd r (1) (fun _ => uN x) z u) (fun u => hk_E D ([(h0, .inr (1, [v0, .int (nI n), rv, .int u.1])), (qh, u.2)]) ([]) (va_A [(h0, .inr (1, [v0, .int (nI n), rv, .int fd])), (qh, e0)] sz)) (va_A [(h0, .inr (1, [v0, .int (nI n), rv, .int fd])), (qh, e0)] sz)) 0 0 (va_A [(h0, .inr (1, [v0, .int (nI n), rv, .int fd])), (qh, e0)] sz) := by
  refine Met.ofW (cc := cX1_one) (maxL := 2) (ret := (some .boolean)) (by decide +kernel) rfl ?_
  intro p e s m args below meth c s₁ B hml hv
  obtain ⟨rfl, hsz, hP, hK, hD0, hN⟩ := hv
  have hx := B.exec
  have hb := B.bytes
  have hr := B.returns
  have hts := atoms_spec (ws := (ws_ yX1_one cX1_one 2 (some .boolean))) B.pre
  have hts : ∀ w ∈ lw_all, w.before _ s = true := fun w h => hts w (List.mem_cons_of_mem _ h)
  have hown : s.vm.findClass RX1 = some m.cls := findClass_of_methodNamed B.named
  have hlocks := B.notSynchronized
  subst hsz
  have hD := hD0.self (sz := s.heap.size)
  generalize hAe : va_A [(h0, .inr (1, [v0, .int (nI n), rv, .int fd])), (qh, e0)] s.heap.size = A at hD ⊢
  have hA : ∀ q : Nat, s.heap.size ≤ q → A q := fun q h => by rw [← hAe]; exact Or.inr h
  have hS : va_S A s.heap s.heap [] := va_S.rf
  have hP : va_P D vwCl [(h0, .inr (1, [v0, .int (nI n), rv, .int fd])), (qh, e0)] s.heap := hP
  have hl := lv_entry ([.ref h0, .int x]) (n := 2) (Nat.le_of_ble_eq_true rfl)
  rw [lg_entry_eq]
  generalize (lg_sl ([.ref h0, .int x]) ++ List.replicate (2 - (lg_sl ([.ref h0, .int x])).length) Slot.unset).toArray = ls at hl ⊢
  have hl : lv_has ls 2 [(0, .ref h0), (1, .int x)] := hl
  cases r with
  | none =>
    have hR : rv = .null := hR
    subst hR
    refine lv_aload_n hx hb dX1_one_0 rfl (lv_at hl 0 rfl) ?_
    refine va_get (D := D) (ci := 1) (v := .null) (C := RX1) (T := TX1) (N := 4) hx hb hts in_X1 hown hK hP 0 rfl rfl 2 (by decide) (hts _ q34) (fun _ h9 => h9) rfl dX1_one_1 ?_
    refine lv_ifnullN (tgt := 19) hx hb dX1_one_4 (by decide) ?_
    refine lv_iconst (v := 0) hx hb dX1_one_19 (by decide) ?_
    have hP9 := hP.sub (ws' := [(h0, .inr (1, [v0, .int (nI n), .null, .int fd])), (qh, e0)]) [0, 1] rfl
    have hD9 := hD.sub (ws' := [(h0, .inr (1, [v0, .int (nI n), .null, .int fd])), (qh, e0)]) [0, 1] (by decide) rfl
    have hK9 := hK.sub (tys' := []) [] rfl
    exact W.zret (v := 0) hx hb hr rfl (fun t ht hW => ⟨⟨_, (fd, e0), rfl, ⟨rfl, rfl⟩, hk_at ht hW hP9 hK9 hD9⟩, hS.F ht⟩) hS.2.2 dX1_one_20
  | some r =>
    obtain ⟨seed, d, k⟩ := r
    obtain ⟨hR1, hR2, hk, h1, buf, sh, hR3, hH⟩ := hR
    subst hR1 hR2 hR3
    refine lv_aload_n hx hb dX1_one_0 rfl (lv_at hl 0 rfl) ?_
    refine va_get (D := D) (ci := 1) (v := .ref qh) (C := RX1) (T := TX1) (N := 4) hx hb hts in_X1 hown hK hP 0 rfl rfl 2 (by decide) (hts _ q34) (fun _ h9 => h9) rfl dX1_one_1 ?_
    refine lv_ifnull hx hb dX1_one_4 ?_
    refine lv_aload_n hx hb dX1_one_7 rfl (lv_at hl 0 rfl) ?_
    refine va_get (D := D) (ci := 1) (v := .int (nI k)) (C := RX1) (T := TX1) (N := 4) hx hb hts in_X1 hown hK hP 0 rfl rfl 3 (by decide) (hts _ q35) (fun _ h9 => h9) rfl dX1_one_8 ?_
    refine lv_iconst (v := 1) hx hb dX1_one_11 (by decide) ?_
    refine lv_iadd hx hb dX1_one_12 ?_
    refine hk_ti (y := nI (k + 1)) (nI_inc k 1 rfl) ?_
    refine lv_sipush (v := 4096) hx hb dX1_one_13 (by decide) ?_
    refine lv_icmp_le (tgt := 21) hx hb dX1_one_16 (by decide) (fun c_1 => ?_) (fun c_1 => ?_)
    · have hle := le_of_nI (b := 4096) (by omega) (by omega) c_1
      refine lv_aload_n hx hb dX1_one_21 rfl (lv_at hl 0 rfl) ?_
      refine lv_dup hx hb dX1_one_22 rfl ?_
      refine va_get (D := D) (ci := 1) (v := .int (nI k)) (C := RX1) (T := TX1) (N := 4) hx hb hts in_X1 hown hK hP 0 rfl rfl 3 (by decide) (hts _ q35) (fun _ h9 => h9) rfl dX1_one_23 ?_
      refine lv_iconst (v := 1) hx hb dX1_one_26 (by decide) ?_
      refine lv_iadd hx hb dX1_one_27 ?_
      refine hk_ti (y := nI (k + 1)) (nI_inc k 1 rfl) ?_
      refine va_put (D := D) (ci := 1) (v := .int (nI (k + 1))) (ty := .int) (C := RX1) (T := TX1) (N := 4) hx hb hts in_X1 tyX1 tyX1_ok nmX1 hown hK hP hD hS 0 rfl rfl 3 (by decide) (hts _ q35) (fun _ h9 => h9) rfl (by decide +kernel) rfl rfl (Nat.le_of_ble_eq_true rfl) dX1_one_28 (fun H locs hP hD hS => ?_)
      have hP : va_P D vwCl [(h0, .inr (1, [v0, .int (nI n), .ref qh, .int (nI (k + 1))])), (qh, .inr (4, [.int h1, .long buf, .int sh, .int (nI k), .int 0]))] H := hP
      have hD : va_D A [(h0, .inr (1, [v0, .int (nI n), .ref qh, .int (nI (k + 1))])), (qh, .inr (4, [.int h1, .long buf, .int sh, .int (nI k), .int 0]))] := hD
      refine lv_aload_n hx hb dX1_one_31 rfl (lv_at hl 0 rfl) ?_
      refine va_get (D := D) (ci := 1) (v := .ref qh) (C := RX1) (T := TX1) (N := 4) hx hb hts in_X1 hown hK hP 0 rfl rfl 2 (by decide) (hts _ q34) (fun _ h9 => h9) rfl dX1_one_32 ?_
      refine lv_iload_n hx hb dX1_one_35 rfl (lv_at hl 1 rfl) ?_
      refine lv_i2b (v := (x : Int32).toInt8.toInt32) hx hb dX1_one_36 rfl ?_
      refine hk_cFr (wr := [(h0, .inr (1, [v0, .int (nI n), .ref qh, .int (nI (k + 1))]))]) (va_runF (C := RX9) (As := [.int ((x : Int32).toInt8.toInt32)]) (rest := []) (hK.1 4 _ rfl).2 ⟨hx, hb, hml, hown, hts⟩ (met_pb l D H.size qh k seed d h1 buf sh 0 x.toInt8.toInt32 (by omega) hH) (va_cwF (x := yH_putByte) 1 hts (lw_F (own := RX1) (idx := 54) (C := RX9) (x := yH_putByte) q230 q233 q222 q23 q224) rfl rfl rfl hN.2.2.2.2.2.2.1 (by decide +kernel) ⟨Nat.le_of_ble_eq_true rfl, Nat.le_of_ble_eq_true rfl⟩) (hk_BV (hP.sub (ws' := [(qh, .inr (4, [.int h1, .long buf, .int sh, .int (nI k), .int 0]))]) [1] rfl) (hK.sub (tys' := []) [] rfl) hN (hD.sub (ws' := [(qh, .inr (4, [.int h1, .long buf, .int sh, .int (nI k), .int 0]))]) [1] (by decide) rfl) (va_recv hK hP (ci := 4) (q0 := 1) rfl rfl)) rfl rfl hl.1 rfl (lv_room (Nat.le_of_ble_eq_true rfl)) dX1_one_37 ⟨Nat.le_of_ble_eq_true rfl, Nat.le_of_ble_eq_true rfl⟩) hP hD hK hS hA [1] [0] rfl rfl (by decide) (by decide) (fun u q7 H locs hu hP hD hK hS => ?_)
      have hP : va_P D vwCl [(h0, .inr (1, [v0, .int (nI n), .ref qh, .int (nI (k + 1))])), (qh, .inr (4, [.int u.1, .long u.2.1, .int u.2.2, .int (nI (k + 1)), .int 0]))] H := hP
      have hD : va_D A [(h0, .inr (1, [v0, .int (nI n), .ref qh, .int (nI (k + 1))])), (qh, .inr (4, [.int u.1, .long u.2.1, .int u.2.2, .int (nI (k + 1)), .int 0]))] := hD
      have hK : va_K D vwCl [] s := hK
      refine lv_pop hx hb dX1_one_42 rfl ?_
      refine lv_iconst (v := 1) hx hb dX1_one_43 (by decide) ?_
      have hP9 := hP.sub (ws' := [(h0, .inr (1, [v0, .int (nI n), .ref qh, .int (nI (k + 1))])), (qh, .inr (4, [.int u.1, .long u.2.1, .int u.2.2, .int (nI (k + 1)), .int 0]))]) [0, 1] rfl
      have hD9 := hD.sub (ws' := [(h0, .inr (1, [v0, .int (nI n), .ref qh, .int (nI (k + 1))])), (qh, .inr (4, [.int u.1, .long u.2.1, .int u.2.2, .int (nI (k + 1)), .int 0]))]) [0, 1] (by decide) rfl
      have hK9 := hK.sub (tys' := []) [] rfl
      refine W.widen (k := 0) (n := 0) (by omega) (by omega) ?_
      exact W.zret (v := 1) hx hb hr rfl (fun t ht hW => ⟨⟨_, (nI (k + 1), .inr (4, [.int u.1, .long u.2.1, .int u.2.2, .int (nI (k + 1)), .int 0])), rfl, Or.inl ⟨hle, rfl, rfl, rfl, hle, u.1, u.2.1, u.2.2, rfl, HS_app hu (fun j _ => uN_i2b x)⟩, hk_at ht hW hP9 hK9 hD9⟩, hS.F ht⟩) hS.2.2 dX1_one_44
    · have hgt := lt_of_nle (b := 4096) (by omega) (by omega) c_1
      refine lv_iconst (v := 0) hx hb dX1_one_19 (by decide) ?_
      have hP9 := hP.sub (ws' := [(h0, .inr (1, [v0, .int (nI n), .ref qh, .int (nI k)])), (qh, .inr (4, [.int h1, .long buf, .int sh, .int (nI k), .int 0]))]) [0, 1] rfl
      have hD9 := hD.sub (ws' := [(h0, .inr (1, [v0, .int (nI n), .ref qh, .int (nI k)])), (qh, .inr (4, [.int h1, .long buf, .int sh, .int (nI k), .int 0]))]) [0, 1] (by decide) rfl
      have hK9 := hK.sub (tys' := []) [] rfl
      exact W.zret (v := 0) hx hb hr rfl (fun t ht hW => ⟨⟨_, (nI k, .inr (4, [.int h1, .long buf, .int sh, .int (nI k), .int 0])), rfl, Or.inr ⟨hgt, rfl, rfl⟩, hk_at ht hW hP9 hK9 hD9⟩, hS.F ht⟩) hS.2.2 dX1_one_20
set_option maxHeartbeats 4000000 in
set_option maxRecDepth 100000 in
/-- word: a run is fed, or not -/
theorem met_wo (l : Launch) (D : va_G) (sz : Nat) (h0 qh n : Nat) (v0 : Value) (rv : Value) (e0 : va_E) (fd : Int32) (r : hk_R) (x : Int32) (hn : n ≤ 256) (hR : dkr rv qh e0 fd r) : Met l yX1_word_2 (ws_ yX1_word_2 cX1_word_2 2 (some .boolean)) ({ frames := 4, cells := 0, slots := 0, locals := 86 }) (va_Pc [.ref h0, .int x] (hk_B D [(h0, .inr (1, [v0, .int (nI n), rv, .int fd])), (qh, e0)] [] sz)) (va_Qi (S := (Int32 × va_E)) (fun z u => fedP rv qh e0 fd r (4) (gL (uN x)) z u) (fun u => hk_E D ([(h0, .inr (1, [v0, .int (nI n), rv, .int u.1])), (qh, u.2)]) ([]) (va_A [(h0, .inr (1, [v0, .int (nI n), rv, .int fd])), (qh, e0)] sz)) (va_A [(h0, .inr (1, [v0, .int (nI n), rv, .int fd])), (qh, e0)] sz)) 0 0 (va_A [(h0, .inr (1, [v0, .int (nI n), rv, .int fd])), (qh, e0)] sz) := by
  refine Met.ofW (cc := cX1_word_2) (maxL := 2) (ret := (some .boolean)) (by decide +kernel) rfl ?_
  intro p e s m args below meth c s₁ B hml hv
  obtain ⟨rfl, hsz, hP, hK, hD0, hN⟩ := hv
  have hx := B.exec
  have hb := B.bytes
  have hr := B.returns
  have hts := atoms_spec (ws := (ws_ yX1_word_2 cX1_word_2 2 (some .boolean))) B.pre
  have hts : ∀ w ∈ lw_all, w.before _ s = true := fun w h => hts w (List.mem_cons_of_mem _ h)
  have hown : s.vm.findClass RX1 = some m.cls := findClass_of_methodNamed B.named
  have hlocks := B.notSynchronized
  subst hsz
  have hD := hD0.self (sz := s.heap.size)
  generalize hAe : va_A [(h0, .inr (1, [v0, .int (nI n), rv, .int fd])), (qh, e0)] s.heap.size = A at hD ⊢
  have hA : ∀ q : Nat, s.heap.size ≤ q → A q := fun q h => by rw [← hAe]; exact Or.inr h
  have hS : va_S A s.heap s.heap [] := va_S.rf
  have hP : va_P D vwCl [(h0, .inr (1, [v0, .int (nI n), rv, .int fd])), (qh, e0)] s.heap := hP
  have hl := lv_entry ([.ref h0, .int x]) (n := 2) (Nat.le_of_ble_eq_true rfl)
  rw [lg_entry_eq]
  generalize (lg_sl ([.ref h0, .int x]) ++ List.replicate (2 - (lg_sl ([.ref h0, .int x])).length) Slot.unset).toArray = ls at hl ⊢
  have hl : lv_has ls 2 [(0, .ref h0), (1, .int x)] := hl
  cases r with
  | none =>
    have hR : rv = .null := hR
    subst hR
    refine lv_aload_n hx hb dX1_word_2_0 rfl (lv_at hl 0 rfl) ?_
    refine va_get (D := D) (ci := 1) (v := .null) (C := RX1) (T := TX1) (N := 4) hx hb hts in_X1 hown hK hP 0 rfl rfl 2 (by decide) (hts _ q34) (fun _ h9 => h9) rfl dX1_word_2_1 ?_
    refine lv_ifnullN (tgt := 19) hx hb dX1_word_2_4 (by decide) ?_
    refine lv_iconst (v := 0) hx hb dX1_word_2_19 (by decide) ?_
    have hP9 := hP.sub (ws' := [(h0, .inr (1, [v0, .int (nI n), .null, .int fd])), (qh, e0)]) [0, 1] rfl
    have hD9 := hD.sub (ws' := [(h0, .inr (1, [v0, .int (nI n), .null, .int fd])), (qh, e0)]) [0, 1] (by decide) rfl
    have hK9 := hK.sub (tys' := []) [] rfl
    exact W.zret (v := 0) hx hb hr rfl (fun t ht hW => ⟨⟨_, (fd, e0), rfl, ⟨rfl, rfl⟩, hk_at ht hW hP9 hK9 hD9⟩, hS.F ht⟩) hS.2.2 dX1_word_2_20
  | some r =>
    obtain ⟨seed, d, k⟩ := r
    obtain ⟨hR1, hR2, hk, h1, buf, sh, hR3, hH⟩ := hR
    subst hR1 hR2 hR3
    refine lv_aload_n hx hb dX1_word_2_0 rfl (lv_at hl 0 rfl) ?_
    refine va_get (D := D) (ci := 1) (v := .ref qh) (C := RX1) (T := TX1) (N := 4) hx hb hts in_X1 hown hK hP 0 rfl rfl 2 (by decide) (hts _ q34) (fun _ h9 => h9) rfl dX1_word_2_1 ?_
    refine lv_ifnull hx hb dX1_word_2_4 ?_
    refine lv_aload_n hx hb dX1_word_2_7 rfl (lv_at hl 0 rfl) ?_
    refine va_get (D := D) (ci := 1) (v := .int (nI k)) (C := RX1) (T := TX1) (N := 4) hx hb hts in_X1 hown hK hP 0 rfl rfl 3 (by decide) (hts _ q35) (fun _ h9 => h9) rfl dX1_word_2_8 ?_
    refine lv_iconst (v := 4) hx hb dX1_word_2_11 (by decide) ?_
    refine lv_iadd hx hb dX1_word_2_12 ?_
    refine hk_ti (y := nI (k + 4)) (nI_inc k 4 rfl) ?_
    refine lv_sipush (v := 4096) hx hb dX1_word_2_13 (by decide) ?_
    refine lv_icmp_le (tgt := 21) hx hb dX1_word_2_16 (by decide) (fun c_1 => ?_) (fun c_1 => ?_)
    · have hle := le_of_nI (b := 4096) (by omega) (by omega) c_1
      refine lv_aload_n hx hb dX1_word_2_21 rfl (lv_at hl 0 rfl) ?_
      refine lv_dup hx hb dX1_word_2_22 rfl ?_
      refine va_get (D := D) (ci := 1) (v := .int (nI k)) (C := RX1) (T := TX1) (N := 4) hx hb hts in_X1 hown hK hP 0 rfl rfl 3 (by decide) (hts _ q35) (fun _ h9 => h9) rfl dX1_word_2_23 ?_
      refine lv_iconst (v := 4) hx hb dX1_word_2_26 (by decide) ?_
      refine lv_iadd hx hb dX1_word_2_27 ?_
      refine hk_ti (y := nI (k + 4)) (nI_inc k 4 rfl) ?_
      refine va_put (D := D) (ci := 1) (v := .int (nI (k + 4))) (ty := .int) (C := RX1) (T := TX1) (N := 4) hx hb hts in_X1 tyX1 tyX1_ok nmX1 hown hK hP hD hS 0 rfl rfl 3 (by decide) (hts _ q35) (fun _ h9 => h9) rfl (by decide +kernel) rfl rfl (Nat.le_of_ble_eq_true rfl) dX1_word_2_28 (fun H locs hP hD hS => ?_)
      have hP : va_P D vwCl [(h0, .inr (1, [v0, .int (nI n), .ref qh, .int (nI (k + 4))])), (qh, .inr (4, [.int h1, .long buf, .int sh, .int (nI k), .int 0]))] H := hP
      have hD : va_D A [(h0, .inr (1, [v0, .int (nI n), .ref qh, .int (nI (k + 4))])), (qh, .inr (4, [.int h1, .long buf, .int sh, .int (nI k), .int 0]))] := hD
      refine lv_aload_n hx hb dX1_word_2_31 rfl (lv_at hl 0 rfl) ?_
      refine va_get (D := D) (ci := 1) (v := .ref qh) (C := RX1) (T := TX1) (N := 4) hx hb hts in_X1 hown hK hP 0 rfl rfl 2 (by decide) (hts _ q34) (fun _ h9 => h9) rfl dX1_word_2_32 ?_
      refine lv_iload_n hx hb dX1_word_2_35 rfl (lv_at hl 1 rfl) ?_
      refine hk_cFr (wr := [(h0, .inr (1, [v0, .int (nI n), .ref qh, .int (nI (k + 4))]))]) (va_runF (C := RX9) (As := [.int x]) (rest := []) (hK.1 4 _ rfl).2 ⟨hx, hb, hml, hown, hts⟩ (met_pi l D H.size qh k seed d h1 buf sh 0 x (by omega) hH) (va_cwF (x := yH_putInt) 1 hts (lw_F (own := RX1) (idx := 58) (C := RX9) (x := yH_putInt) q241 q244 q246 q23 q248) rfl rfl rfl hN.2.2.2.2.2.2.2.1 (by decide +kernel) ⟨Nat.le_of_ble_eq_true rfl, Nat.le_of_ble_eq_true rfl⟩) (hk_BV (hP.sub (ws' := [(qh, .inr (4, [.int h1, .long buf, .int sh, .int (nI k), .int 0]))]) [1] rfl) (hK.sub (tys' := []) [] rfl) hN (hD.sub (ws' := [(qh, .inr (4, [.int h1, .long buf, .int sh, .int (nI k), .int 0]))]) [1] (by decide) rfl) (va_recv hK hP (ci := 4) (q0 := 1) rfl rfl)) rfl rfl hl.1 rfl (lv_room (Nat.le_of_ble_eq_true rfl)) dX1_word_2_36 ⟨Nat.le_of_ble_eq_true rfl, Nat.le_of_ble_eq_true rfl⟩) hP hD hK hS hA [1] [0] rfl rfl (by decide) (by decide) (fun u q7 H locs hu hP hD hK hS => ?_)
      have hP : va_P D vwCl [(h0, .inr (1, [v0, .int (nI n), .ref qh, .int (nI (k + 4))])), (qh, .inr (4, [.int u.1, .long u.2.1, .int u.2.2, .int (nI (k + 4)), .int 0]))] H := hP
      have hD : va_D A [(h0, .inr (1, [v0, .int (nI n), .ref qh, .int (nI (k + 4))])), (qh, .inr (4, [.int u.1, .long u.2.1, .int u.2.2, .int (nI (k + 4)), .int 0]))] := hD
      have hK : va_K D vwCl [] s := hK
      refine lv_pop hx hb dX1_word_2_41 rfl ?_
      refine lv_iconst (v := 1) hx hb dX1_word_2_42 (by decide) ?_
      have hP9 := hP.sub (ws' := [(h0, .inr (1, [v0, .int (nI n), .ref qh, .int (nI (k + 4))])), (qh, .inr (4, [.int u.1, .long u.2.1, .int u.2.2, .int (nI (k + 4)), .int 0]))]) [0, 1] rfl
      have hD9 := hD.sub (ws' := [(h0, .inr (1, [v0, .int (nI n), .ref qh, .int (nI (k + 4))])), (qh, .inr (4, [.int u.1, .long u.2.1, .int u.2.2, .int (nI (k + 4)), .int 0]))]) [0, 1] (by decide) rfl
      have hK9 := hK.sub (tys' := []) [] rfl
      refine W.widen (k := 0) (n := 0) (by omega) (by omega) ?_
      exact W.zret (v := 1) hx hb hr rfl (fun t ht hW => ⟨⟨_, (nI (k + 4), .inr (4, [.int u.1, .long u.2.1, .int u.2.2, .int (nI (k + 4)), .int 0])), rfl, Or.inl ⟨hle, rfl, rfl, rfl, hle, u.1, u.2.1, u.2.2, rfl, hu⟩, hk_at ht hW hP9 hK9 hD9⟩, hS.F ht⟩) hS.2.2 dX1_word_2_43
    · have hgt := lt_of_nle (b := 4096) (by omega) (by omega) c_1
      refine lv_iconst (v := 0) hx hb dX1_word_2_19 (by decide) ?_
      have hP9 := hP.sub (ws' := [(h0, .inr (1, [v0, .int (nI n), .ref qh, .int (nI k)])), (qh, .inr (4, [.int h1, .long buf, .int sh, .int (nI k), .int 0]))]) [0, 1] rfl
      have hD9 := hD.sub (ws' := [(h0, .inr (1, [v0, .int (nI n), .ref qh, .int (nI k)])), (qh, .inr (4, [.int h1, .long buf, .int sh, .int (nI k), .int 0]))]) [0, 1] (by decide) rfl
      have hK9 := hK.sub (tys' := []) [] rfl
      exact W.zret (v := 0) hx hb hr rfl (fun t ht hW => ⟨⟨_, (nI k, .inr (4, [.int h1, .long buf, .int sh, .int (nI k), .int 0])), rfl, Or.inr ⟨hgt, rfl, rfl⟩, hk_at ht hW hP9 hK9 hD9⟩, hS.F ht⟩) hS.2.2 dX1_word_2_20
set_option maxHeartbeats 4000000 in
set_option maxRecDepth 100000 in
/-- wide: a run is fed, or not -/
theorem met_wi (l : Launch) (D : va_G) (sz : Nat) (h0 qh n : Nat) (v0 : Value) (rv : Value) (e0 : va_E) (fd : Int32) (r : hk_R) (x y : Int32) (hn : n ≤ 256) (hR : dkr rv qh e0 fd r) : Met l yX1_wide (ws_ yX1_wide cX1_wide 3 (some .boolean)) ({ frames := 4, cells := 0, slots := 0, locals := 87 }) (va_Pc [.ref h0, .int x, .int y] (hk_B D [(h0, .inr (1, [v0, .int (nI n), rv, .int fd])), (qh, e0)] [] sz)) (va_Qi (S := (Int32 × va_E)) (fun z u => fedP rv qh e0 fd r (8) (gL (uL (m_wd x y))) z u) (fun u => hk_E D ([(h0, .inr (1, [v0, .int (nI n), rv, .int u.1])), (qh, u.2)]) ([]) (va_A [(h0, .inr (1, [v0, .int (nI n), rv, .int fd])), (qh, e0)] sz)) (va_A [(h0, .inr (1, [v0, .int (nI n), rv, .int fd])), (qh, e0)] sz)) 0 0 (va_A [(h0, .inr (1, [v0, .int (nI n), rv, .int fd])), (qh, e0)] sz) := by
  refine Met.ofW (cc := cX1_wide) (maxL := 3) (ret := (some .boolean)) (by decide +kernel) rfl ?_
  intro p e s m args below meth c s₁ B hml hv
  obtain ⟨rfl, hsz, hP, hK, hD0, hN⟩ := hv
  have hx := B.exec
  have hb := B.bytes
  have hr := B.returns
  have hts := atoms_spec (ws := (ws_ yX1_wide cX1_wide 3 (some .boolean))) B.pre
  have hts : ∀ w ∈ lw_all, w.before _ s = true := fun w h => hts w (List.mem_cons_of_mem _ h)
  have hown : s.vm.findClass RX1 = some m.cls := findClass_of_methodNamed B.named
  have hlocks := B.notSynchronized
  subst hsz
  have hD := hD0.self (sz := s.heap.size)
  generalize hAe : va_A [(h0, .inr (1, [v0, .int (nI n), rv, .int fd])), (qh, e0)] s.heap.size = A at hD ⊢
  have hA : ∀ q : Nat, s.heap.size ≤ q → A q := fun q h => by rw [← hAe]; exact Or.inr h
  have hS : va_S A s.heap s.heap [] := va_S.rf
  have hP : va_P D vwCl [(h0, .inr (1, [v0, .int (nI n), rv, .int fd])), (qh, e0)] s.heap := hP
  have hl := lv_entry ([.ref h0, .int x, .int y]) (n := 3) (Nat.le_of_ble_eq_true rfl)
  rw [lg_entry_eq]
  generalize (lg_sl ([.ref h0, .int x, .int y]) ++ List.replicate (3 - (lg_sl ([.ref h0, .int x, .int y])).length) Slot.unset).toArray = ls at hl ⊢
  have hl : lv_has ls 3 [(0, .ref h0), (1, .int x), (2, .int y)] := hl
  cases r with
  | none =>
    have hR : rv = .null := hR
    subst hR
    refine lv_aload_n hx hb dX1_wide_0 rfl (lv_at hl 0 rfl) ?_
    refine va_get (D := D) (ci := 1) (v := .null) (C := RX1) (T := TX1) (N := 4) hx hb hts in_X1 hown hK hP 0 rfl rfl 2 (by decide) (hts _ q34) (fun _ h9 => h9) rfl dX1_wide_1 ?_
    refine lv_ifnullN (tgt := 20) hx hb dX1_wide_4 (by decide) ?_
    refine lv_iconst (v := 0) hx hb dX1_wide_20 (by decide) ?_
    have hP9 := hP.sub (ws' := [(h0, .inr (1, [v0, .int (nI n), .null, .int fd])), (qh, e0)]) [0, 1] rfl
    have hD9 := hD.sub (ws' := [(h0, .inr (1, [v0, .int (nI n), .null, .int fd])), (qh, e0)]) [0, 1] (by decide) rfl
    have hK9 := hK.sub (tys' := []) [] rfl
    exact W.zret (v := 0) hx hb hr rfl (fun t ht hW => ⟨⟨_, (fd, e0), rfl, ⟨rfl, rfl⟩, hk_at ht hW hP9 hK9 hD9⟩, hS.F ht⟩) hS.2.2 dX1_wide_21
  | some r =>
    obtain ⟨seed, d, k⟩ := r
    obtain ⟨hR1, hR2, hk, h1, buf, sh, hR3, hH⟩ := hR
    subst hR1 hR2 hR3
    refine lv_aload_n hx hb dX1_wide_0 rfl (lv_at hl 0 rfl) ?_
    refine va_get (D := D) (ci := 1) (v := .ref qh) (C := RX1) (T := TX1) (N := 4) hx hb hts in_X1 hown hK hP 0 rfl rfl 2 (by decide) (hts _ q34) (fun _ h9 => h9) rfl dX1_wide_1 ?_
    refine lv_ifnull hx hb dX1_wide_4 ?_
    refine lv_aload_n hx hb dX1_wide_7 rfl (lv_at hl 0 rfl) ?_
    refine va_get (D := D) (ci := 1) (v := .int (nI k)) (C := RX1) (T := TX1) (N := 4) hx hb hts in_X1 hown hK hP 0 rfl rfl 3 (by decide) (hts _ q35) (fun _ h9 => h9) rfl dX1_wide_8 ?_
    refine lv_bipush (v := 8) hx hb dX1_wide_11 (by decide) ?_
    refine lv_iadd hx hb dX1_wide_13 ?_
    refine hk_ti (y := nI (k + 8)) (nI_inc k 8 rfl) ?_
    refine lv_sipush (v := 4096) hx hb dX1_wide_14 (by decide) ?_
    refine lv_icmp_le (tgt := 22) hx hb dX1_wide_17 (by decide) (fun c_1 => ?_) (fun c_1 => ?_)
    · have hle := le_of_nI (b := 4096) (by omega) (by omega) c_1
      refine lv_aload_n hx hb dX1_wide_22 rfl (lv_at hl 0 rfl) ?_
      refine lv_dup hx hb dX1_wide_23 rfl ?_
      refine va_get (D := D) (ci := 1) (v := .int (nI k)) (C := RX1) (T := TX1) (N := 4) hx hb hts in_X1 hown hK hP 0 rfl rfl 3 (by decide) (hts _ q35) (fun _ h9 => h9) rfl dX1_wide_24 ?_
      refine lv_bipush (v := 8) hx hb dX1_wide_27 (by decide) ?_
      refine lv_iadd hx hb dX1_wide_29 ?_
      refine hk_ti (y := nI (k + 8)) (nI_inc k 8 rfl) ?_
      refine va_put (D := D) (ci := 1) (v := .int (nI (k + 8))) (ty := .int) (C := RX1) (T := TX1) (N := 4) hx hb hts in_X1 tyX1 tyX1_ok nmX1 hown hK hP hD hS 0 rfl rfl 3 (by decide) (hts _ q35) (fun _ h9 => h9) rfl (by decide +kernel) rfl rfl (Nat.le_of_ble_eq_true rfl) dX1_wide_30 (fun H locs hP hD hS => ?_)
      have hP : va_P D vwCl [(h0, .inr (1, [v0, .int (nI n), .ref qh, .int (nI (k + 8))])), (qh, .inr (4, [.int h1, .long buf, .int sh, .int (nI k), .int 0]))] H := hP
      have hD : va_D A [(h0, .inr (1, [v0, .int (nI n), .ref qh, .int (nI (k + 8))])), (qh, .inr (4, [.int h1, .long buf, .int sh, .int (nI k), .int 0]))] := hD
      refine lv_aload_n hx hb dX1_wide_33 rfl (lv_at hl 0 rfl) ?_
      refine va_get (D := D) (ci := 1) (v := .ref qh) (C := RX1) (T := TX1) (N := 4) hx hb hts in_X1 hown hK hP 0 rfl rfl 2 (by decide) (hts _ q34) (fun _ h9 => h9) rfl dX1_wide_34 ?_
      refine lv_iload_n hx hb dX1_wide_37 rfl (lv_at hl 1 rfl) ?_
      refine lv_iload_n hx hb dX1_wide_38 rfl (lv_at hl 2 rfl) ?_
      refine vp_callSl (va_Run.run (va_runS (As := [.int x, .int y]) (rest := [.ref qh]) ⟨hx, hb, hml, hown, hts⟩ (met_of l D x y) (va_cwS 2 hts (lw_S q253 q254 q7 q255) rfl rfl rfl (by decide +kernel) ⟨Nat.le_of_ble_eq_true rfl, Nat.le_of_ble_eq_true rfl⟩) (hk_CS (hP.sub (ws' := []) [] rfl) (hK.sub (tys' := []) [] rfl) hN) rfl rfl hl.1 rfl (lv_room (Nat.le_of_ble_eq_true rfl)) dX1_wide_39 ⟨Nat.le_of_ble_eq_true rfl, Nat.le_of_ble_eq_true rfl⟩)) (fun r_2 hr_2 => ?_)
      obtain rfl : r_2 = m_wd x y := hr_2
      refine hk_cFr (wr := [(h0, .inr (1, [v0, .int (nI n), .ref qh, .int (nI (k + 8))]))]) (va_runF (C := RX9) (As := [.long (m_wd x y)]) (rest := []) (hK.1 4 _ rfl).2 ⟨hx, hb, hml, hown, hts⟩ (met_pl l D H.size qh k seed d h1 buf sh 0 (m_wd x y) (by omega) hH) (va_cwF (x := yH_putLong) 1 hts (lw_F (own := RX1) (idx := 66) (C := RX9) (x := yH_putLong) q258 q261 q263 q23 q265) rfl rfl rfl hN.2.2.2.2.2.2.2.2.1 (by decide +kernel) ⟨Nat.le_of_ble_eq_true rfl, Nat.le_of_ble_eq_true rfl⟩) (hk_BV (hP.sub (ws' := [(qh, .inr (4, [.int h1, .long buf, .int sh, .int (nI k), .int 0]))]) [1] rfl) (hK.sub (tys' := []) [] rfl) hN (hD.sub (ws' := [(qh, .inr (4, [.int h1, .long buf, .int sh, .int (nI k), .int 0]))]) [1] (by decide) rfl) (va_recv hK hP (ci := 4) (q0 := 1) rfl rfl)) rfl rfl hl.1 rfl (lv_room (Nat.le_of_ble_eq_true rfl)) dX1_wide_42 ⟨Nat.le_of_ble_eq_true rfl, Nat.le_of_ble_eq_true rfl⟩) hP hD hK hS hA [1] [0] rfl rfl (by decide) (by decide) (fun u q7 H locs hu hP hD hK hS => ?_)
      have hP : va_P D vwCl [(h0, .inr (1, [v0, .int (nI n), .ref qh, .int (nI (k + 8))])), (qh, .inr (4, [.int u.1, .long u.2.1, .int u.2.2, .int (nI (k + 8)), .int 0]))] H := hP
      have hD : va_D A [(h0, .inr (1, [v0, .int (nI n), .ref qh, .int (nI (k + 8))])), (qh, .inr (4, [.int u.1, .long u.2.1, .int u.2.2, .int (nI (k + 8)), .int 0]))] := hD
      have hK : va_K D vwCl [] s := hK
      refine lv_pop hx hb dX1_wide_47 rfl ?_
      refine lv_iconst (v := 1) hx hb dX1_wide_48 (by decide) ?_
      have hP9 := hP.sub (ws' := [(h0, .inr (1, [v0, .int (nI n), .ref qh, .int (nI (k + 8))])), (qh, .inr (4, [.int u.1, .long u.2.1, .int u.2.2, .int (nI (k + 8)), .int 0]))]) [0, 1] rfl
      have hD9 := hD.sub (ws' := [(h0, .inr (1, [v0, .int (nI n), .ref qh, .int (nI (k + 8))])), (qh, .inr (4, [.int u.1, .long u.2.1, .int u.2.2, .int (nI (k + 8)), .int 0]))]) [0, 1] (by decide) rfl
      have hK9 := hK.sub (tys' := []) [] rfl
      refine W.widen (k := 0) (n := 0) (by omega) (by omega) ?_
      exact W.zret (v := 1) hx hb hr rfl (fun t ht hW => ⟨⟨_, (nI (k + 8), .inr (4, [.int u.1, .long u.2.1, .int u.2.2, .int (nI (k + 8)), .int 0])), rfl, Or.inl ⟨hle, rfl, rfl, rfl, hle, u.1, u.2.1, u.2.2, rfl, hu⟩, hk_at ht hW hP9 hK9 hD9⟩, hS.F ht⟩) hS.2.2 dX1_wide_49
    · have hgt := lt_of_nle (b := 4096) (by omega) (by omega) c_1
      refine lv_iconst (v := 0) hx hb dX1_wide_20 (by decide) ?_
      have hP9 := hP.sub (ws' := [(h0, .inr (1, [v0, .int (nI n), .ref qh, .int (nI k)])), (qh, .inr (4, [.int h1, .long buf, .int sh, .int (nI k), .int 0]))]) [0, 1] rfl
      have hD9 := hD.sub (ws' := [(h0, .inr (1, [v0, .int (nI n), .ref qh, .int (nI k)])), (qh, .inr (4, [.int h1, .long buf, .int sh, .int (nI k), .int 0]))]) [0, 1] (by decide) rfl
      have hK9 := hK.sub (tys' := []) [] rfl
      exact W.zret (v := 0) hx hb hr rfl (fun t ht hW => ⟨⟨_, (nI k, .inr (4, [.int h1, .long buf, .int sh, .int (nI k), .int 0])), rfl, Or.inr ⟨hgt, rfl, rfl⟩, hk_at ht hW hP9 hK9 hD9⟩, hS.F ht⟩) hS.2.2 dX1_wide_21
set_option maxHeartbeats 4000000 in
set_option maxRecDepth 100000 in
/-- close -/
theorem met_cl (l : Launch) (D : va_G) (sz : Nat) (h0 qh : Nat) (v0 : Value) (v1 : Int32) (rv : Value) (e0 : va_E) (fd : Int32) (r : hk_R) (hR : dkr rv qh e0 fd r) : Met l yX1_close (ws_ yX1_close cX1_close 2 (some .int)) ({ frames := 6, cells := 1, slots := 1, locals := 114 }) (va_Pc [.ref h0] (hk_B D [(h0, .inr (1, [v0, .int v1, rv, .int fd])), (qh, e0)] [] sz)) (va_Qi (S := va_E) (fun z u => z = m_told r) (fun u => hk_E D ([(h0, .inr (1, [v0, .int v1, .null, .int fd])), (qh, u)]) ([]) (va_A [(h0, .inr (1, [v0, .int v1, rv, .int fd])), (qh, e0)] sz)) (va_A [(h0, .inr (1, [v0, .int v1, rv, .int fd])), (qh, e0)] sz)) 1 1 (va_A [(h0, .inr (1, [v0, .int v1, rv, .int fd])), (qh, e0)] sz) := by
  refine Met.ofW (cc := cX1_close) (maxL := 2) (ret := (some .int)) (by decide +kernel) rfl ?_
  intro p e s m args below meth c s₁ B hml hv
  obtain ⟨rfl, hsz, hP, hK, hD0, hN⟩ := hv
  have hx := B.exec
  have hb := B.bytes
  have hr := B.returns
  have hts := atoms_spec (ws := (ws_ yX1_close cX1_close 2 (some .int))) B.pre
  have hts : ∀ w ∈ lw_all, w.before _ s = true := fun w h => hts w (List.mem_cons_of_mem _ h)
  have hown : s.vm.findClass RX1 = some m.cls := findClass_of_methodNamed B.named
  have hlocks := B.notSynchronized
  subst hsz
  have hD := hD0.self (sz := s.heap.size)
  generalize hAe : va_A [(h0, .inr (1, [v0, .int v1, rv, .int fd])), (qh, e0)] s.heap.size = A at hD ⊢
  have hA : ∀ q : Nat, s.heap.size ≤ q → A q := fun q h => by rw [← hAe]; exact Or.inr h
  have hS : va_S A s.heap s.heap [] := va_S.rf
  have hP : va_P D vwCl [(h0, .inr (1, [v0, .int v1, rv, .int fd])), (qh, e0)] s.heap := hP
  have hl := lv_entry ([.ref h0]) (n := 2) (Nat.le_of_ble_eq_true rfl)
  rw [lg_entry_eq]
  generalize (lg_sl ([.ref h0]) ++ List.replicate (2 - (lg_sl ([.ref h0])).length) Slot.unset).toArray = ls at hl ⊢
  have hl : lv_has ls 2 [(0, .ref h0)] := hl
  cases r with
  | none =>
    have hR : rv = .null := hR
    subst hR
    refine lv_aload_n hx hb dX1_close_0 rfl (lv_at hl 0 rfl) ?_
    refine va_get (D := D) (ci := 1) (v := .null) (C := RX1) (T := TX1) (N := 4) hx hb hts in_X1 hown hK hP 0 rfl rfl 2 (by decide) (hts _ q34) (fun _ h9 => h9) rfl dX1_close_1 ?_
    refine lv_ifnonnullN hx hb dX1_close_4 ?_
    refine lv_iconst (v := 0) hx hb dX1_close_7 (by decide) ?_
    have hP9 := hP.sub (ws' := [(h0, .inr (1, [v0, .int v1, .null, .int fd])), (qh, e0)]) [0, 1] rfl
    have hD9 := hD.sub (ws' := [(h0, .inr (1, [v0, .int v1, .null, .int fd])), (qh, e0)]) [0, 1] (by decide) rfl
    have hK9 := hK.sub (tys' := []) [] rfl
    refine W.widen (k := 1) (n := 1) (by omega) (by omega) ?_
    exact W.iret (v := 0) hx hb hr (fun t ht hW => ⟨⟨_, e0, rfl, rfl, hk_at ht hW hP9 hK9 hD9⟩, hS.F ht⟩) hS.2.2 dX1_close_8
  | some r =>
    obtain ⟨seed, d, k⟩ := r
    obtain ⟨hR1, hR2, hk, h1, buf, sh, hR3, hH⟩ := hR
    subst hR1 hR2 hR3
    refine lv_aload_n hx hb dX1_close_0 rfl (lv_at hl 0 rfl) ?_
    refine va_get (D := D) (ci := 1) (v := .ref qh) (C := RX1) (T := TX1) (N := 4) hx hb hts in_X1 hown hK hP 0 rfl rfl 2 (by decide) (hts _ q34) (fun _ h9 => h9) rfl dX1_close_1 ?_
    refine lv_ifnonnull (tgt := 9) hx hb dX1_close_4 (by decide) ?_
    refine lv_aload_n hx hb dX1_close_9 rfl (lv_at hl 0 rfl) ?_
    refine va_get (D := D) (ci := 1) (v := .ref qh) (C := RX1) (T := TX1) (N := 4) hx hb hts in_X1 hown hK hP 0 rfl rfl 2 (by decide) (hts _ q34) (fun _ h9 => h9) rfl dX1_close_10 ?_
    refine hk_cFr (wr := [(h0, .inr (1, [v0, .int v1, .ref qh, .int (nI k)]))]) (va_runF (C := RX9) (As := []) (rest := []) (hK.1 4 _ rfl).2 ⟨hx, hb, hml, hown, hts⟩ (met_hs l D s.heap.size qh k seed d h1 buf sh hH) (va_cwF (x := yH_hash) 0 hts (lw_F (own := RX1) (idx := 70) (C := RX9) (x := yH_hash) q271 q274 q276 q23 q278) rfl rfl rfl hN.2.2.2.2.2.2.2.2.2 (by decide +kernel) ⟨Nat.le_of_ble_eq_true rfl, Nat.le_of_ble_eq_true rfl⟩) (hk_BV (hP.sub (ws' := [(qh, .inr (4, [.int h1, .long buf, .int sh, .int (nI k), .int 0]))]) [1] rfl) (hK.sub (tys' := []) [] rfl) hN (hD.sub (ws' := [(qh, .inr (4, [.int h1, .long buf, .int sh, .int (nI k), .int 0]))]) [1] (by decide) rfl) (va_recv hK hP (ci := 4) (q0 := 1) rfl rfl)) rfl rfl hl.1 rfl (lv_room (Nat.le_of_ble_eq_true rfl)) dX1_close_13 ⟨Nat.le_of_ble_eq_true rfl, Nat.le_of_ble_eq_true rfl⟩) hP hD hK hS hA [1] [0] rfl rfl (by decide) (by decide) (fun u_3 q7 H locs h_2 hP hD hK hS => ?_)
    have hP : va_P D vwCl [(h0, .inr (1, [v0, .int v1, .ref qh, .int (nI k)])), (qh, .inr (4, [.int (h1 ^^^ m_k buf.toInt32), .long buf, .int sh, .int (nI k), .int 1])), (q7, .inr (3, [.int (m_hash d k seed)]))] H := hP
    have hD : va_D A [(h0, .inr (1, [v0, .int v1, .ref qh, .int (nI k)])), (qh, .inr (4, [.int (h1 ^^^ m_k buf.toInt32), .long buf, .int sh, .int (nI k), .int 1])), (q7, .inr (3, [.int (m_hash d k seed)]))] := hD
    have hK : va_K D vwCl [] s := hK
    refine vp_callSi (va_Run.run (va_runU (As := []) (rest := []) ⟨hx, hb, hml, hown, hts⟩ (met_ai l D q7 (m_hash d k seed)) (va_cwA (C := RX7) (owner := RX6) (x := yA_asInt) 0 hts (lw_U (own := RX1) (idx := 74) (C := RX7) (owner := RX6) (x := yA_asInt) q324 q326 q327 q328 q20 q329) rfl rfl rfl hN.2.2.2.2.1 (by decide +kernel) ⟨Nat.le_of_ble_eq_true rfl, Nat.le_of_ble_eq_true rfl⟩) (hk_CV (hP.sub (ws' := [(q7, .inr (3, [.int (m_hash d k seed)]))]) [2] rfl) (hK.sub (tys' := []) [] rfl) hN (va_recv hK hP (ci := 3) (q0 := 2) rfl rfl)) rfl rfl hl.1 rfl (lv_room (Nat.le_of_ble_eq_true rfl)) dX1_close_18 ⟨Nat.le_of_ble_eq_true rfl, Nat.le_of_ble_eq_true rfl⟩)) (fun r_4 hr_4 => ?_)
    obtain rfl : r_4 = m_hash d k seed := hr_4
    refine lv_istore_n (lv' := [(1, .int (m_hash d k seed)), (0, .ref h0)]) hx hb dX1_close_21 rfl hl (by decide) rfl (fun ls hl => ?_)
    refine lv_aload_n hx hb dX1_close_22 rfl (lv_at hl 1 rfl) ?_
    refine lv_null hx hb dX1_close_23 ?_
    refine va_put (D := D) (ci := 1) (v := .null) (ty := .object "Hasher") (C := RX1) (T := TX1) (N := 4) hx hb hts in_X1 tyX1 tyX1_ok nmX1 hown hK hP hD hS 0 rfl rfl 2 (by decide) (hts _ q34) (fun _ h9 => h9) rfl (by decide +kernel) rfl rfl (Nat.le_of_ble_eq_true rfl) dX1_close_24 (fun H locs hP hD hS => ?_)
    have hP : va_P D vwCl [(h0, .inr (1, [v0, .int v1, .null, .int (nI k)])), (qh, .inr (4, [.int (h1 ^^^ m_k buf.toInt32), .long buf, .int sh, .int (nI k), .int 1])), (q7, .inr (3, [.int (m_hash d k seed)]))] H := hP
    have hD : va_D A [(h0, .inr (1, [v0, .int v1, .null, .int (nI k)])), (qh, .inr (4, [.int (h1 ^^^ m_k buf.toInt32), .long buf, .int sh, .int (nI k), .int 1])), (q7, .inr (3, [.int (m_hash d k seed)]))] := hD
    refine lv_iload_n hx hb dX1_close_27 rfl (lv_at hl 0 rfl) ?_
    have hP9 := hP.sub (ws' := [(h0, .inr (1, [v0, .int v1, .null, .int (nI k)])), (qh, .inr (4, [.int (h1 ^^^ m_k buf.toInt32), .long buf, .int sh, .int (nI k), .int 1]))]) [0, 1] rfl
    have hD9 := hD.sub (ws' := [(h0, .inr (1, [v0, .int v1, .null, .int (nI k)])), (qh, .inr (4, [.int (h1 ^^^ m_k buf.toInt32), .long buf, .int sh, .int (nI k), .int 1]))]) [0, 1] (by decide) rfl
    have hK9 := hK.sub (tys' := []) [] rfl
    refine W.widen (k := 1) (n := 1) (by omega) (by omega) ?_
    exact W.iret (v := m_hash d k seed) hx hb hr (fun t ht hW => ⟨⟨_, (.inr (4, [.int (h1 ^^^ m_k buf.toInt32), .long buf, .int sh, .int (nI k), .int 1])), rfl, rfl, hk_at ht hW hP9 hK9 hD9⟩, hS.F ht⟩) hS.2.2 dX1_close_28
set_option maxHeartbeats 4000000 in
set_option maxRecDepth 100000 in
/-- whole -/
theorem met_wh (l : Launch) (D : va_G) (sz : Nat) (h0 qt n : Nat) (ct : ClassId) (tx : Nat → Int32) (v2 : Value) (f3 x y z : Int32) (hn : n ≤ 256) : Met l yX1_whole (ws_ yX1_whole cX1_whole 6 (some .int)) ({ frames := 6, cells := 2, slots := 3, locals := 121 }) (va_Pc [.ref h0, .int x, .int y, .int z] (hk_B D [(h0, .inr (1, [.ref qt, .int (nI n), v2, .int f3])), (qt, .inl (ct, 256, .inl tx))] [(ct, .byte)] sz)) (va_Qi (S := Nat) (fun r u => r = m_hash (fun j => uN (tx (mdN x (n + 1) + j))) (mdN y (n - mdN x (n + 1) + 1)) z) (fun u => hk_E D ([(h0, .inr (1, [.ref qt, .int (nI n), v2, .int f3])), (qt, .inl (ct, 256, .inl tx)), (u, .inr (2, [.int z, .int 1]))]) ([(ct, .byte)]) (va_A [(h0, .inr (1, [.ref qt, .int (nI n), v2, .int f3])), (qt, .inl (ct, 256, .inl tx))] sz)) (va_A [(h0, .inr (1, [.ref qt, .int (nI n), v2, .int f3])), (qt, .inl (ct, 256, .inl tx))] sz)) 2 3 (va_A [(h0, .inr (1, [.ref qt, .int (nI n), v2, .int f3])), (qt, .inl (ct, 256, .inl tx))] sz) := by
  refine Met.ofW (cc := cX1_whole) (maxL := 6) (ret := (some .int)) (by decide +kernel) rfl ?_
  intro p e s m args below meth c s₁ B hml hv
  obtain ⟨rfl, hsz, hP, hK, hD0, hN⟩ := hv
  have hx := B.exec
  have hb := B.bytes
  have hr := B.returns
  have hts := atoms_spec (ws := (ws_ yX1_whole cX1_whole 6 (some .int))) B.pre
  have hts : ∀ w ∈ lw_all, w.before _ s = true := fun w h => hts w (List.mem_cons_of_mem _ h)
  have hown : s.vm.findClass RX1 = some m.cls := findClass_of_methodNamed B.named
  have hlocks := B.notSynchronized
  subst hsz
  have hD := hD0.self (sz := s.heap.size)
  generalize hAe : va_A [(h0, .inr (1, [.ref qt, .int (nI n), v2, .int f3])), (qt, .inl (ct, 256, .inl tx))] s.heap.size = A at hD ⊢
  have hA : ∀ q : Nat, s.heap.size ≤ q → A q := fun q h => by rw [← hAe]; exact Or.inr h
  have hS : va_S A s.heap s.heap [] := va_S.rf
  have hP : va_P D vwCl [(h0, .inr (1, [.ref qt, .int (nI n), v2, .int f3])), (qt, .inl (ct, 256, .inl tx))] s.heap := hP
  have hl := lv_entry ([.ref h0, .int x, .int y, .int z]) (n := 6) (Nat.le_of_ble_eq_true rfl)
  rw [lg_entry_eq]
  generalize (lg_sl ([.ref h0, .int x, .int y, .int z]) ++ List.replicate (6 - (lg_sl ([.ref h0, .int x, .int y, .int z])).length) Slot.unset).toArray = ls at hl ⊢
  have hl : lv_has ls 6 [(0, .ref h0), (1, .int x), (2, .int y), (3, .int z)] := hl
  have hin := md_in x y n
  refine lv_aload_n hx hb dX1_whole_0 rfl (lv_at hl 0 rfl) ?_
  refine lv_iload_n hx hb dX1_whole_1 rfl (lv_at hl 1 rfl) ?_
  refine vp_callSi (va_Run.run (va_runV (As := [.int x]) (rest := []) ⟨hx, hb, hml, hown, hts⟩ (met_fr l D h0 n (.ref qt) v2 f3 (by omega) x) (cwV 1 hts (lw_V q57 q59 qs0 q7 q60) rfl rfl rfl (by decide +kernel) ⟨Nat.le_of_ble_eq_true rfl, Nat.le_of_ble_eq_true rfl⟩) (hk_CV (hP.sub (ws' := [(h0, .inr (1, [.ref qt, .int (nI n), v2, .int f3]))]) [0] rfl) (hK.sub (tys' := []) [] rfl) hN (va_recv hK hP (ci := 1) (q0 := 0) rfl rfl)) rfl rfl hl.1 rfl (lv_room (Nat.le_of_ble_eq_true rfl)) dX1_whole_2 ⟨Nat.le_of_ble_eq_true rfl, Nat.le_of_ble_eq_true rfl⟩)) (fun r_1 hr_1 => ?_)
  obtain rfl : r_1 = nI (mdN x (n + 1)) := hr_1
  refine lv_istore (lv' := [(4, .int (nI (mdN x (n + 1)))), (0, .ref h0), (1, .int x), (2, .int y), (3, .int z)]) hx hb dX1_whole_5 hl (by decide) rfl (fun ls hl => ?_)
  refine lv_aload_n hx hb dX1_whole_7 rfl (lv_at hl 1 rfl) ?_
  refine lv_iload hx hb dX1_whole_8 (lv_at hl 0 rfl) ?_
  refine lv_iload_n hx hb dX1_whole_10 rfl (lv_at hl 3 rfl) ?_
  refine vp_callSi (va_Run.run (va_runV (As := [.int (nI (mdN x (n + 1))), .int y]) (rest := []) ⟨hx, hb, hml, hown, hts⟩ (met_ct l D h0 n (.ref qt) v2 f3 (by omega) (mdN x (n + 1)) (mdN_le x n) y) (cwV 2 hts (lw_V q115 q117 qs1 q7 q118) rfl rfl rfl (by decide +kernel) ⟨Nat.le_of_ble_eq_true rfl, Nat.le_of_ble_eq_true rfl⟩) (hk_CV (hP.sub (ws' := [(h0, .inr (1, [.ref qt, .int (nI n), v2, .int f3]))]) [0] rfl) (hK.sub (tys' := []) [] rfl) hN (va_recv hK hP (ci := 1) (q0 := 0) rfl rfl)) rfl rfl hl.1 rfl (lv_room (Nat.le_of_ble_eq_true rfl)) dX1_whole_11 ⟨Nat.le_of_ble_eq_true rfl, Nat.le_of_ble_eq_true rfl⟩)) (fun r_2 hr_2 => ?_)
  obtain rfl : r_2 = nI (mdN y (n - mdN x (n + 1) + 1)) := hr_2
  refine lv_istore (lv' := [(5, .int (nI (mdN y (n - mdN x (n + 1) + 1)))), (4, .int (nI (mdN x (n + 1)))), (0, .ref h0), (1, .int x), (2, .int y), (3, .int z)]) hx hb dX1_whole_14 hl (by decide) rfl (fun ls hl => ?_)
  refine va_new (ci := 2) (fs := [.int 0, .int 0]) (C := RX3) (T := TX3) (N := 2) hx hb hts in_X3 tyX3 tyX3_ok hown (hts _ q66) (hts _ q67) (hts _ q9) hK hP hD hS hA rfl (fun j hj => by rcases (show j = 0 ∨ j = 1 by omega) with rfl | rfl <;> rfl) (Nat.le_of_ble_eq_true rfl) (Nat.le_of_ble_eq_true rfl) dX1_whole_16 (fun q0 H hP hD hS => ?_)
  have hP : va_P D vwCl [(h0, .inr (1, [.ref qt, .int (nI n), v2, .int f3])), (qt, .inl (ct, 256, .inl tx)), (q0, .inr (2, [.int 0, .int 0]))] H := hP
  have hD : va_D A [(h0, .inr (1, [.ref qt, .int (nI n), v2, .int f3])), (qt, .inl (ct, 256, .inl tx)), (q0, .inr (2, [.int 0, .int 0]))] := hD
  refine lv_dup hx hb dX1_whole_19 rfl ?_
  refine lv_iload_n hx hb dX1_whole_20 rfl (lv_at hl 5 rfl) ?_
  refine lv_iconst (v := 1) hx hb dX1_whole_21 (by decide) ?_
  refine hk_cv (wr := [(h0, .inr (1, [.ref qt, .int (nI n), v2, .int f3])), (qt, .inl (ct, 256, .inl tx))]) (va_runI (As := [.int z, .int 1]) (rest := [.ref q0]) ⟨hx, hb, hml, hown, hts⟩ (met_in l D H.size q0 0 0 z) (cwI 2 hts (lw_meth q70) rfl rfl rfl (hts _ q9) (hts _ q68) (hts _ q69) rfl (by decide +kernel) ⟨Nat.le_of_ble_eq_true rfl, Nat.le_of_ble_eq_true rfl⟩) (hk_BS (hP.sub (ws' := [(q0, .inr (2, [.int 0, .int 0]))]) [2] rfl) (hK.sub (tys' := []) [] rfl) hN (hD.sub (ws' := [(q0, .inr (2, [.int 0, .int 0]))]) [2] (by decide) rfl)) rfl rfl hl.1 rfl (lv_room (Nat.le_of_ble_eq_true rfl)) dX1_whole_22 ⟨Nat.le_of_ble_eq_true rfl, Nat.le_of_ble_eq_true rfl⟩) hP hD hK hS hA [2] [0, 1] rfl rfl (by decide) (by decide) (fun u_5 H locs h_4 hP hD hK hS => ?_)
  have hP : va_P D vwCl [(h0, .inr (1, [.ref qt, .int (nI n), v2, .int f3])), (qt, .inl (ct, 256, .inl tx)), (q0, .inr (2, [.int z, .int 1]))] H := hP
  have hD : va_D A [(h0, .inr (1, [.ref qt, .int (nI n), v2, .int f3])), (qt, .inl (ct, 256, .inl tx)), (q0, .inr (2, [.int z, .int 1]))] := hD
  have hK : va_K D vwCl [(ct, .byte)] s := hK
  refine lv_aload_n hx hb dX1_whole_25 rfl (lv_at hl 2 rfl) ?_
  refine va_get (D := D) (ci := 1) (v := .ref qt) (C := RX1) (T := TX1) (N := 4) hx hb hts in_X1 hown hK hP 0 rfl rfl 0 (by decide) (hts _ q32) (fun _ h9 => h9) rfl dX1_whole_26 ?_
  refine lv_iload hx hb dX1_whole_29 (lv_at hl 1 rfl) ?_
  refine lv_iload hx hb dX1_whole_31 (lv_at hl 0 rfl) ?_
  refine hk_cr (wr := [(h0, .inr (1, [.ref qt, .int (nI n), v2, .int f3]))]) (va_runV (As := [.ref qt, .int (nI (mdN x (n + 1))), .int (nI (mdN y (n - mdN x (n + 1) + 1)))]) (rest := []) ⟨hx, hb, hml, hown, hts⟩ (met_hb l D H.size q0 qt 256 ct tx z 1 (mdN x (n + 1)) (mdN y (n - mdN x (n + 1) + 1)) (by omega) (by omega)) (cwV 3 hts (lw_V q334 q335 q336 q9 q337) rfl rfl rfl (by decide +kernel) ⟨Nat.le_of_ble_eq_true rfl, Nat.le_of_ble_eq_true rfl⟩) (hk_BV (hP.sub (ws' := [(q0, .inr (2, [.int z, .int 1])), (qt, .inl (ct, 256, .inl tx))]) [2, 1] rfl) (hK.sub (tys' := [(ct, .byte)]) [0] rfl) hN (hD.sub (ws' := [(q0, .inr (2, [.int z, .int 1])), (qt, .inl (ct, 256, .inl tx))]) [2, 1] (by decide) rfl) (va_recv hK hP (ci := 2) (q0 := 2) rfl rfl)) rfl rfl hl.1 rfl (lv_room (Nat.le_of_ble_eq_true rfl)) dX1_whole_33 ⟨Nat.le_of_ble_eq_true rfl, Nat.le_of_ble_eq_true rfl⟩) hP hD hK hS hA [2, 1] [0] rfl rfl (by decide) (by decide) (fun u_8 q7 H locs h_7 hP hD hK hS => ?_)
  have hP : va_P D vwCl [(h0, .inr (1, [.ref qt, .int (nI n), v2, .int f3])), (q0, .inr (2, [.int z, .int 1])), (qt, .inl (ct, 256, .inl tx)), (q7, .inr (3, [.int (m_hash (fun j => uN (tx (mdN x (n + 1) + j))) (mdN y (n - mdN x (n + 1) + 1)) z)]))] H := hP
  have hD : va_D A [(h0, .inr (1, [.ref qt, .int (nI n), v2, .int f3])), (q0, .inr (2, [.int z, .int 1])), (qt, .inl (ct, 256, .inl tx)), (q7, .inr (3, [.int (m_hash (fun j => uN (tx (mdN x (n + 1) + j))) (mdN y (n - mdN x (n + 1) + 1)) z)]))] := hD
  have hK := hK.sub (tys' := [(ct, .byte)]) [0] rfl
  refine vp_callSi (va_Run.run (va_runU (As := []) (rest := []) ⟨hx, hb, hml, hown, hts⟩ (met_ai l D q7 (m_hash (fun j => uN (tx (mdN x (n + 1) + j))) (mdN y (n - mdN x (n + 1) + 1)) z)) (va_cwA (C := RX7) (owner := RX6) (x := yA_asInt) 0 hts (lw_U (own := RX1) (idx := 74) (C := RX7) (owner := RX6) (x := yA_asInt) q324 q326 q327 q328 q20 q329) rfl rfl rfl hN.2.2.2.2.1 (by decide +kernel) ⟨Nat.le_of_ble_eq_true rfl, Nat.le_of_ble_eq_true rfl⟩) (hk_CV (hP.sub (ws' := [(q7, .inr (3, [.int (m_hash (fun j => uN (tx (mdN x (n + 1) + j))) (mdN y (n - mdN x (n + 1) + 1)) z)]))]) [3] rfl) (hK.sub (tys' := []) [] rfl) hN (va_recv hK hP (ci := 3) (q0 := 3) rfl rfl)) rfl rfl hl.1 rfl (lv_room (Nat.le_of_ble_eq_true rfl)) dX1_whole_36 ⟨Nat.le_of_ble_eq_true rfl, Nat.le_of_ble_eq_true rfl⟩)) (fun r_9 hr_9 => ?_)
  obtain rfl : r_9 = m_hash (fun j => uN (tx (mdN x (n + 1) + j))) (mdN y (n - mdN x (n + 1) + 1)) z := hr_9
  have hP9 := hP.sub (ws' := [(h0, .inr (1, [.ref qt, .int (nI n), v2, .int f3])), (qt, .inl (ct, 256, .inl tx)), (q0, .inr (2, [.int z, .int 1]))]) [0, 2, 1] rfl
  have hD9 := hD.sub (ws' := [(h0, .inr (1, [.ref qt, .int (nI n), v2, .int f3])), (qt, .inl (ct, 256, .inl tx)), (q0, .inr (2, [.int z, .int 1]))]) [0, 2, 1] (by decide) rfl
  have hK9 := hK.sub (tys' := [(ct, .byte)]) [0] rfl
  refine W.widen (k := 2) (n := 3) (by omega) (by omega) ?_
  exact W.iret (v := m_hash (fun j => uN (tx (mdN x (n + 1) + j))) (mdN y (n - mdN x (n + 1) + 1)) z) hx hb hr (fun t ht hW => ⟨⟨_, q0, rfl, rfl, hk_at ht hW hP9 hK9 hD9⟩, hS.F ht⟩) hS.2.2 dX1_whole_39
set_option maxHeartbeats 4000000 in
set_option maxRecDepth 100000 in
/-- ofWord -/
theorem met_ow (l : Launch) (D : va_G) (sz : Nat) (h0 : Nat) (v z : Int32) : Met l yX1_ofWord (ws_ yX1_ofWord cX1_ofWord 3 (some .int)) ({ frames := 6, cells := 2, slots := 3, locals := 117 }) (va_Pc [.ref h0, .int v, .int z] (hk_B D [] [] sz)) (va_Qi (S := Unit) (fun r u => r = m_hash (gL (uN v)) 4 z) (fun u => hk_E D ([]) ([]) (va_A [] sz)) (va_A [] sz)) 2 3 (va_A [] sz) := by
  refine Met.ofW (cc := cX1_ofWord) (maxL := 3) (ret := (some .int)) (by decide +kernel) rfl ?_
  intro p e s m args below meth c s₁ B hml hv
  obtain ⟨rfl, hsz, hP, hK, hD0, hN⟩ := hv
  have hx := B.exec
  have hb := B.bytes
  have hr := B.returns
  have hts := atoms_spec (ws := (ws_ yX1_ofWord cX1_ofWord 3 (some .int))) B.pre
  have hts : ∀ w ∈ lw_all, w.before _ s = true := fun w h => hts w (List.mem_cons_of_mem _ h)
  have hown : s.vm.findClass RX1 = some m.cls := findClass_of_methodNamed B.named
  have hlocks := B.notSynchronized
  subst hsz
  have hD := hD0.self (sz := s.heap.size)
  generalize hAe : va_A [] s.heap.size = A at hD ⊢
  have hA : ∀ q : Nat, s.heap.size ≤ q → A q := fun q h => by rw [← hAe]; exact Or.inr h
  have hS : va_S A s.heap s.heap [] := va_S.rf
  have hP : va_P D vwCl [] s.heap := hP
  have hl := lv_entry ([.ref h0, .int v, .int z]) (n := 3) (Nat.le_of_ble_eq_true rfl)
  rw [lg_entry_eq]
  generalize (lg_sl ([.ref h0, .int v, .int z]) ++ List.replicate (3 - (lg_sl ([.ref h0, .int v, .int z])).length) Slot.unset).toArray = ls at hl ⊢
  have hl : lv_has ls 3 [(0, .ref h0), (1, .int v), (2, .int z)] := hl
  refine va_new (ci := 2) (fs := [.int 0, .int 0]) (C := RX3) (T := TX3) (N := 2) hx hb hts in_X3 tyX3 tyX3_ok hown (hts _ q66) (hts _ q67) (hts _ q9) hK hP hD hS hA rfl (fun j hj => by rcases (show j = 0 ∨ j = 1 by omega) with rfl | rfl <;> rfl) (Nat.le_of_ble_eq_true rfl) (Nat.le_of_ble_eq_true rfl) dX1_ofWord_0 (fun q0 H hP hD hS => ?_)
  have hP : va_P D vwCl [(q0, .inr (2, [.int 0, .int 0]))] H := hP
  have hD : va_D A [(q0, .inr (2, [.int 0, .int 0]))] := hD
  refine lv_dup hx hb dX1_ofWord_3 rfl ?_
  refine lv_iload_n hx hb dX1_ofWord_4 rfl (lv_at hl 2 rfl) ?_
  refine lv_iconst (v := 1) hx hb dX1_ofWord_5 (by decide) ?_
  refine hk_cv (wr := []) (va_runI (As := [.int z, .int 1]) (rest := [.ref q0]) ⟨hx, hb, hml, hown, hts⟩ (met_in l D H.size q0 0 0 z) (cwI 2 hts (lw_meth q70) rfl rfl rfl (hts _ q9) (hts _ q68) (hts _ q69) rfl (by decide +kernel) ⟨Nat.le_of_ble_eq_true rfl, Nat.le_of_ble_eq_true rfl⟩) (hk_BS (hP.sub (ws' := [(q0, .inr (2, [.int 0, .int 0]))]) [0] rfl) (hK.sub (tys' := []) [] rfl) hN (hD.sub (ws' := [(q0, .inr (2, [.int 0, .int 0]))]) [0] (by decide) rfl)) rfl rfl hl.1 rfl (lv_room (Nat.le_of_ble_eq_true rfl)) dX1_ofWord_6 ⟨Nat.le_of_ble_eq_true rfl, Nat.le_of_ble_eq_true rfl⟩) hP hD hK hS hA [0] [] rfl rfl (by decide) (by decide) (fun u_3 H locs h_2 hP hD hK hS => ?_)
  have hP : va_P D vwCl [(q0, .inr (2, [.int z, .int 1]))] H := hP
  have hD : va_D A [(q0, .inr (2, [.int z, .int 1]))] := hD
  have hK : va_K D vwCl [] s := hK
  refine lv_iload_n hx hb dX1_ofWord_9 rfl (lv_at hl 1 rfl) ?_
  refine hk_cr (wr := []) (va_runV (As := [.int v]) (rest := []) ⟨hx, hb, hml, hown, hts⟩ (met_hi l D H.size q0 z 1 v) (cwV 1 hts (lw_V q350 q351 q352 q9 q353) rfl rfl rfl (by decide +kernel) ⟨Nat.le_of_ble_eq_true rfl, Nat.le_of_ble_eq_true rfl⟩) (hk_BV (hP.sub (ws' := [(q0, .inr (2, [.int z, .int 1]))]) [0] rfl) (hK.sub (tys' := []) [] rfl) hN (hD.sub (ws' := [(q0, .inr (2, [.int z, .int 1]))]) [0] (by decide) rfl) (va_recv hK hP (ci := 2) (q0 := 0) rfl rfl)) rfl rfl hl.1 rfl (lv_room (Nat.le_of_ble_eq_true rfl)) dX1_ofWord_10 ⟨Nat.le_of_ble_eq_true rfl, Nat.le_of_ble_eq_true rfl⟩) hP hD hK hS hA [0] [] rfl rfl (by decide) (by decide) (fun u_6 q7 H locs h_5 hP hD hK hS => ?_)
  have hP : va_P D vwCl [(q0, .inr (2, [.int z, .int 1])), (q7, .inr (3, [.int (m_hash (gL (uN v)) 4 z)]))] H := hP
  have hD : va_D A [(q0, .inr (2, [.int z, .int 1])), (q7, .inr (3, [.int (m_hash (gL (uN v)) 4 z)]))] := hD
  have hK : va_K D vwCl [] s := hK
  refine vp_callSi (va_Run.run (va_runU (As := []) (rest := []) ⟨hx, hb, hml, hown, hts⟩ (met_ai l D q7 (m_hash (gL (uN v)) 4 z)) (va_cwA (C := RX7) (owner := RX6) (x := yA_asInt) 0 hts (lw_U (own := RX1) (idx := 74) (C := RX7) (owner := RX6) (x := yA_asInt) q324 q326 q327 q328 q20 q329) rfl rfl rfl hN.2.2.2.2.1 (by decide +kernel) ⟨Nat.le_of_ble_eq_true rfl, Nat.le_of_ble_eq_true rfl⟩) (hk_CV (hP.sub (ws' := [(q7, .inr (3, [.int (m_hash (gL (uN v)) 4 z)]))]) [1] rfl) (hK.sub (tys' := []) [] rfl) hN (va_recv hK hP (ci := 3) (q0 := 1) rfl rfl)) rfl rfl hl.1 rfl (lv_room (Nat.le_of_ble_eq_true rfl)) dX1_ofWord_13 ⟨Nat.le_of_ble_eq_true rfl, Nat.le_of_ble_eq_true rfl⟩)) (fun r_7 hr_7 => ?_)
  obtain rfl : r_7 = m_hash (gL (uN v)) 4 z := hr_7
  have hP9 := hP.sub (ws' := []) [] rfl
  have hD9 := hD.sub (ws' := []) [] (by decide) rfl
  have hK9 := hK.sub (tys' := []) [] rfl
  refine W.widen (k := 2) (n := 3) (by omega) (by omega) ?_
  exact W.iret (v := m_hash (gL (uN v)) 4 z) hx hb hr (fun t ht hW => ⟨⟨_, (), rfl, rfl, hk_at ht hW hP9 hK9 hD9⟩, hS.F ht⟩) hS.2.2 dX1_ofWord_16
set_option maxHeartbeats 4000000 in
set_option maxRecDepth 100000 in
/-- ofWide -/
theorem met_ol (l : Launch) (D : va_G) (sz : Nat) (h0 : Nat) (x y z : Int32) : Met l yX1_ofWide (ws_ yX1_ofWide cX1_ofWide 4 (some .int)) ({ frames := 6, cells := 2, slots := 3, locals := 120 }) (va_Pc [.ref h0, .int x, .int y, .int z] (hk_B D [] [] sz)) (va_Qi (S := Unit) (fun r u => r = m_hash (gL (uL (m_wd x y))) 8 z) (fun u => hk_E D ([]) ([]) (va_A [] sz)) (va_A [] sz)) 2 3 (va_A [] sz) := by
  refine Met.ofW (cc := cX1_ofWide) (maxL := 4) (ret := (some .int)) (by decide +kernel) rfl ?_
  intro p e s m args below meth c s₁ B hml hv
  obtain ⟨rfl, hsz, hP, hK, hD0, hN⟩ := hv
  have hx := B.exec
  have hb := B.bytes
  have hr := B.returns
  have hts := atoms_spec (ws := (ws_ yX1_ofWide cX1_ofWide 4 (some .int))) B.pre
  have hts : ∀ w ∈ lw_all, w.before _ s = true := fun w h => hts w (List.mem_cons_of_mem _ h)
  have hown : s.vm.findClass RX1 = some m.cls := findClass_of_methodNamed B.named
  have hlocks := B.notSynchronized
  subst hsz
  have hD := hD0.self (sz := s.heap.size)
  generalize hAe : va_A [] s.heap.size = A at hD ⊢
  have hA : ∀ q : Nat, s.heap.size ≤ q → A q := fun q h => by rw [← hAe]; exact Or.inr h
  have hS : va_S A s.heap s.heap [] := va_S.rf
  have hP : va_P D vwCl [] s.heap := hP
  have hl := lv_entry ([.ref h0, .int x, .int y, .int z]) (n := 4) (Nat.le_of_ble_eq_true rfl)
  rw [lg_entry_eq]
  generalize (lg_sl ([.ref h0, .int x, .int y, .int z]) ++ List.replicate (4 - (lg_sl ([.ref h0, .int x, .int y, .int z])).length) Slot.unset).toArray = ls at hl ⊢
  have hl : lv_has ls 4 [(0, .ref h0), (1, .int x), (2, .int y), (3, .int z)] := hl
  refine va_new (ci := 2) (fs := [.int 0, .int 0]) (C := RX3) (T := TX3) (N := 2) hx hb hts in_X3 tyX3 tyX3_ok hown (hts _ q66) (hts _ q67) (hts _ q9) hK hP hD hS hA rfl (fun j hj => by rcases (show j = 0 ∨ j = 1 by omega) with rfl | rfl <;> rfl) (Nat.le_of_ble_eq_true rfl) (Nat.le_of_ble_eq_true rfl) dX1_ofWide_0 (fun q0 H hP hD hS => ?_)
  have hP : va_P D vwCl [(q0, .inr (2, [.int 0, .int 0]))] H := hP
  have hD : va_D A [(q0, .inr (2, [.int 0, .int 0]))] := hD
  refine lv_dup hx hb dX1_ofWide_3 rfl ?_
  refine lv_iload_n hx hb dX1_ofWide_4 rfl (lv_at hl 3 rfl) ?_
  refine lv_iconst (v := 1) hx hb dX1_ofWide_5 (by decide) ?_
  refine hk_cv (wr := []) (va_runI (As := [.int z, .int 1]) (rest := [.ref q0]) ⟨hx, hb, hml, hown, hts⟩ (met_in l D H.size q0 0 0 z) (cwI 2 hts (lw_meth q70) rfl rfl rfl (hts _ q9) (hts _ q68) (hts _ q69) rfl (by decide +kernel) ⟨Nat.le_of_ble_eq_true rfl, Nat.le_of_ble_eq_true rfl⟩) (hk_BS (hP.sub (ws' := [(q0, .inr (2, [.int 0, .int 0]))]) [0] rfl) (hK.sub (tys' := []) [] rfl) hN (hD.sub (ws' := [(q0, .inr (2, [.int 0, .int 0]))]) [0] (by decide) rfl)) rfl rfl hl.1 rfl (lv_room (Nat.le_of_ble_eq_true rfl)) dX1_ofWide_6 ⟨Nat.le_of_ble_eq_true rfl, Nat.le_of_ble_eq_true rfl⟩) hP hD hK hS hA [0] [] rfl rfl (by decide) (by decide) (fun u_3 H locs h_2 hP hD hK hS => ?_)
  have hP : va_P D vwCl [(q0, .inr (2, [.int z, .int 1]))] H := hP
  have hD : va_D A [(q0, .inr (2, [.int z, .int 1]))] := hD
  have hK : va_K D vwCl [] s := hK
  refine lv_iload_n hx hb dX1_ofWide_9 rfl (lv_at hl 1 rfl) ?_
  refine lv_iload_n hx hb dX1_ofWide_10 rfl (lv_at hl 2 rfl) ?_
  refine vp_callSl (va_Run.run (va_runS (As := [.int x, .int y]) (rest := [.ref q0]) ⟨hx, hb, hml, hown, hts⟩ (met_of l D x y) (va_cwS 2 hts (lw_S q253 q254 q7 q255) rfl rfl rfl (by decide +kernel) ⟨Nat.le_of_ble_eq_true rfl, Nat.le_of_ble_eq_true rfl⟩) (hk_CS (hP.sub (ws' := []) [] rfl) (hK.sub (tys' := []) [] rfl) hN) rfl rfl hl.1 rfl (lv_room (Nat.le_of_ble_eq_true rfl)) dX1_ofWide_11 ⟨Nat.le_of_ble_eq_true rfl, Nat.le_of_ble_eq_true rfl⟩)) (fun r_4 hr_4 => ?_)
  obtain rfl : r_4 = m_wd x y := hr_4
  refine hk_cr (wr := []) (va_runV (As := [.long (m_wd x y)]) (rest := []) ⟨hx, hb, hml, hown, hts⟩ (met_hl l D H.size q0 z 1 (m_wd x y)) (cwV 1 hts (lw_V q358 q359 q360 q9 q361) rfl rfl rfl (by decide +kernel) ⟨Nat.le_of_ble_eq_true rfl, Nat.le_of_ble_eq_true rfl⟩) (hk_BV (hP.sub (ws' := [(q0, .inr (2, [.int z, .int 1]))]) [0] rfl) (hK.sub (tys' := []) [] rfl) hN (hD.sub (ws' := [(q0, .inr (2, [.int z, .int 1]))]) [0] (by decide) rfl) (va_recv hK hP (ci := 2) (q0 := 0) rfl rfl)) rfl rfl hl.1 rfl (lv_room (Nat.le_of_ble_eq_true rfl)) dX1_ofWide_14 ⟨Nat.le_of_ble_eq_true rfl, Nat.le_of_ble_eq_true rfl⟩) hP hD hK hS hA [0] [] rfl rfl (by decide) (by decide) (fun u_7 q7 H locs h_6 hP hD hK hS => ?_)
  have hP : va_P D vwCl [(q0, .inr (2, [.int z, .int 1])), (q7, .inr (3, [.int (m_hash (gL (uL (m_wd x y))) 8 z)]))] H := hP
  have hD : va_D A [(q0, .inr (2, [.int z, .int 1])), (q7, .inr (3, [.int (m_hash (gL (uL (m_wd x y))) 8 z)]))] := hD
  have hK : va_K D vwCl [] s := hK
  refine vp_callSi (va_Run.run (va_runU (As := []) (rest := []) ⟨hx, hb, hml, hown, hts⟩ (met_ai l D q7 (m_hash (gL (uL (m_wd x y))) 8 z)) (va_cwA (C := RX7) (owner := RX6) (x := yA_asInt) 0 hts (lw_U (own := RX1) (idx := 74) (C := RX7) (owner := RX6) (x := yA_asInt) q324 q326 q327 q328 q20 q329) rfl rfl rfl hN.2.2.2.2.1 (by decide +kernel) ⟨Nat.le_of_ble_eq_true rfl, Nat.le_of_ble_eq_true rfl⟩) (hk_CV (hP.sub (ws' := [(q7, .inr (3, [.int (m_hash (gL (uL (m_wd x y))) 8 z)]))]) [1] rfl) (hK.sub (tys' := []) [] rfl) hN (va_recv hK hP (ci := 3) (q0 := 1) rfl rfl)) rfl rfl hl.1 rfl (lv_room (Nat.le_of_ble_eq_true rfl)) dX1_ofWide_17 ⟨Nat.le_of_ble_eq_true rfl, Nat.le_of_ble_eq_true rfl⟩)) (fun r_8 hr_8 => ?_)
  obtain rfl : r_8 = m_hash (gL (uL (m_wd x y))) 8 z := hr_8
  have hP9 := hP.sub (ws' := []) [] rfl
  have hD9 := hD.sub (ws' := []) [] (by decide) rfl
  have hK9 := hK.sub (tys' := []) [] rfl
  refine W.widen (k := 2) (n := 3) (by omega) (by omega) ?_
  exact W.iret (v := m_hash (gL (uL (m_wd x y))) 8 z) hx hb hr (fun t ht hW => ⟨⟨_, (), rfl, rfl, hk_at ht hW hP9 hK9 hD9⟩, hS.F ht⟩) hS.2.2 dX1_ofWide_20
end
section
set_option maxRecDepth 20000
/-! PLAIN LAW of the law's own methods -/
/-- the script's int at j, 0 behind its end -/
def cxs (L : Nat) (xs : Nat → Int32) (j : Nat) : Int32 := if j < L then xs j else 0
theorem hk_XS {s : State} {H : Heap} {b L : Nat} {xs : Nat → Int32} {v : Int32} {A : Nat → Prop} {locs : List Loc} (hX : va_X b L xs s s.heap) (hbl : b < s.heap.size) (hbA : ¬ A b) (hS : va_S A s.heap H locs) : PreS s H (va_Pc [.ref b, .int v] (fun U => va_X b L xs U U.heap)) [.ref b, .int v] :=
  ⟨fun a U g mk q => ⟨q.1, va_X.moved (u := U) (U := U.calling g mk a) (Vm.Alike.refl U.vm) q.2⟩, fun U hU hW => ⟨rfl, by show va_X b L xs U U.heap; rw [hU]; exact va_X.moved hW.alike (hX.kept (hS.2.1 b hbl hbA))⟩⟩
theorem nI_dec (x : Int32) : x + Int32.ofInt (-1) = x - 1 := by rw [io_m, Int32.sub_eq_add_neg]
theorem nI_ltp {q : Nat} (h : q < 2 ^ 20) : nI q - 1 < nI q := by
  rw [Int32.lt_iff_toInt_lt, show nI q - 1 = nI q - nI 1 from rfl, pk_sub_toInt (b := 1) (by omega) (by decide), nI_toInt (by omega)]
  omega
theorem bytes_step {v : Int64} {f : Nat → Int32} {i : Nat} (hi : i < 8) (h : ∀ j, j < i → uN (f j) % 256 = gL (uL v) j % 256) : ∀ j, j < i + 1 → uN (upd f i (vp_nar .byte ((v.toUInt64 >>> ((nI (8 * i)).toInt64.toUInt64 &&& Int64.toUInt64 63)).toInt64.toInt32.toInt8.toInt32)) j) % 256 = gL (uL v) j % 256 := by
  intro j hj
  rcases Nat.lt_or_ge j i with q | q
  · rw [pk_un (by omega)]
    exact h j q
  · have e : j = i := by omega
    subst e
    rw [pk_us, uN_nar, uN_i2b, uN_l2i, uL_ushr _ (by omega), Nat.pow_mul]
    unfold gL
    show uL v / 256 ^ j % 2 ^ 32 % 256 = uL v / 256 ^ j % 256
    omega
theorem part_step {a f : Nat → Int32} {fr i : Nat} (h : ∀ j, j < i → uN (f j) % 256 = uN (a (fr + j)) % 256) : ∀ j, j < i + 1 → uN (upd f i (vp_nar .byte (a (fr + i))) j) % 256 = uN (a (fr + j)) % 256 := by
  intro j hj
  rcases Nat.lt_or_ge j i with q | q
  · rw [pk_un (by omega)]
    exact h j q
  · have e : j = i := by omega
    subst e
    rw [pk_us, uN_nar]
/-- i cells of g copied behind the k first -/
def cpf (f : Nat → Int32) (k : Nat) (g : Nat → Int32) : Nat → (Nat → Int32)
  | 0 => f
  | i + 1 => upd (cpf f k g i) (k + i) (vp_nar .byte (g i))
theorem cpf_lo {f g : Nat → Int32} {k j : Nat} (h : j < k) (i : Nat) : cpf f k g i j = f j := by
  induction i with
  | zero => rfl
  | succ i ih =>
    show upd (cpf f k g i) (k + i) (vp_nar .byte (g i)) j = f j
    rw [pk_un (by omega), ih]
theorem cpf_hi {f g : Nat → Int32} {k j : Nat} (i : Nat) (h : j < i) : cpf f k g i (k + j) = vp_nar .byte (g j) := by
  induction i with
  | zero => omega
  | succ i ih =>
    show upd (cpf f k g i) (k + i) (vp_nar .byte (g i)) (k + j) = _
    rcases Nat.lt_or_ge j i with q | q
    · rw [pk_un (by omega), ih q]
    · have e : j = i := by omega
      subst e
      rw [pk_us]
/-- the law's picture of a run beside the desk's: none, or the same bytes -/
def runRel (rv : Value) (qh : Nat) (e : va_E) (fd lsz lsd : Int32) (ff : Nat → Int32) : Prop := (rv = .null ∧ lsz = -1) ∨ ∃ k : Nat, k ≤ 4096 ∧ lsz = nI k ∧ dkr rv qh e fd (some (lsd, (fun j => uN (ff j)), k))
end
section
/-! THE LAW'S OWN METHODS, but its entry -/
set_option maxHeartbeats 4000000 in
set_option maxRecDepth 100000 in
/-- StreamHashDeskLaw() -/
theorem met_li (l : Launch) (D : va_G) (sz : Nat) (h0 : Nat) : Met l yX0_init (ws_ yX0_init cX0_init 1 none) ({ frames := 1, cells := 1, slots := 4096, locals := 12 }) (va_Pc [.ref h0] (hk_B D [(h0, .inr (0, [.null, .int 0, .int 0]))] [] sz)) (va_Qv (S := (Nat × ClassId)) (fun _ => True) (fun u => hk_E D ([(h0, .inr (0, [.ref u.1, .int (-1), .int 0])), (u.1, .inl (u.2, 4096, .inl (fun _ => 0)))]) ([(u.2, .byte)]) (va_A [(h0, .inr (0, [.null, .int 0, .int 0]))] sz)) (va_A [(h0, .inr (0, [.null, .int 0, .int 0]))] sz)) 1 4096 (va_A [(h0, .inr (0, [.null, .int 0, .int 0]))] sz) := by
  refine Met.ofW (cc := cX0_init) (maxL := 1) (ret := none) (by decide +kernel) rfl ?_
  intro p e s m args below meth c s₁ B hml hv
  obtain ⟨rfl, hsz, hP, hK, hD0, hN⟩ := hv
  have hx := B.exec
  have hb := B.bytes
  have hr := B.returns
  have hts := atoms_spec (ws := (ws_ yX0_init cX0_init 1 none)) B.pre
  have hts : ∀ w ∈ lw_all, w.before _ s = true := fun w h => hts w (List.mem_cons_of_mem _ h)
  have hown : s.vm.findClass RX0 = some m.cls := findClass_of_methodNamed B.named
  have hlocks := B.notSynchronized
  have hin : meth.name = "<init>" := (name_of_methodNamed B.named B.method).1
  subst hsz
  have hD := hD0.self (sz := s.heap.size)
  generalize hAe : va_A [(h0, .inr (0, [.null, .int 0, .int 0]))] s.heap.size = A at hD ⊢
  have hA : ∀ q : Nat, s.heap.size ≤ q → A q := fun q h => by rw [← hAe]; exact Or.inr h
  have hS : va_S A s.heap s.heap [] := va_S.rf
  have hP : va_P D vwCl [(h0, .inr (0, [.null, .int 0, .int 0]))] s.heap := hP
  have hl := lv_entry ([.ref h0]) (n := 1) (Nat.le_of_ble_eq_true rfl)
  rw [lg_entry_eq]
  generalize (lg_sl ([.ref h0]) ++ List.replicate (1 - (lg_sl ([.ref h0])).length) Slot.unset).toArray = ls at hl ⊢
  have hl : lv_has ls 1 [(0, .ref h0)] := hl
  refine lv_aload_n hx hb dX0_init_0 rfl (lv_at hl 0 rfl) ?_
  refine W.objInit hx hb hown (hts _ q367) (hts _ q30) (hts _ q31) rfl (by rw [hml]; exact hl.1) rfl dX0_init_1 (Nat.le_of_ble_eq_true rfl) (Nat.le_of_ble_eq_true rfl) ?_
  refine W.eq (g2 := F0 m 4 ls []) rfl ?_
  refine lv_aload_n hx hb dX0_init_4 rfl (lv_at hl 0 rfl) ?_
  refine lv_sipush (v := 4096) hx hb dX0_init_5 (by decide) ?_
  refine va_newa (atype := .byte) (ty := .byte) (N' := 4096) (a0 := (4096, .inl (fun _ => 0))) hx hb (hts _ q45) rfl hK hP hD hS hA (fun _ => rfl) (by decide) (by decide +kernel) (Nat.le_of_ble_eq_true rfl) (Nat.le_of_ble_eq_true rfl) (Nat.le_of_ble_eq_true rfl) dX0_init_8 (fun q0 c0 H hK hP hD hS => ?_)
  have hP : va_P D vwCl [(h0, .inr (0, [.null, .int 0, .int 0])), (q0, .inl (c0, 4096, .inl (fun _ => 0)))] H := hP
  have hD : va_D A [(h0, .inr (0, [.null, .int 0, .int 0])), (q0, .inl (c0, 4096, .inl (fun _ => 0)))] := hD
  have hK : va_K D vwCl [(c0, .byte)] s := hK
  refine va_put (D := D) (ci := 0) (v := .ref q0) (ty := .array .byte) (C := RX0) (T := TX0) (N := 3) hx hb hts in_X0 tyX0 tyX0_ok nmX0 hown hK hP hD hS 0 rfl rfl 0 (by decide) (hts _ q368) (fun _ h9 => h9) rfl (by decide +kernel) rfl rfl (Nat.le_of_ble_eq_true rfl) dX0_init_10 (fun H locs hP hD hS => ?_)
  have hP : va_P D vwCl [(h0, .inr (0, [.ref q0, .int 0, .int 0])), (q0, .inl (c0, 4096, .inl (fun _ => 0)))] H := hP
  have hD : va_D A [(h0, .inr (0, [.ref q0, .int 0, .int 0])), (q0, .inl (c0, 4096, .inl (fun _ => 0)))] := hD
  refine lv_aload_n hx hb dX0_init_13 rfl (lv_at hl 0 rfl) ?_
  refine lv_iconst (v := -1) hx hb dX0_init_14 (by decide) ?_
  refine va_put (D := D) (ci := 0) (v := .int (-1)) (ty := .int) (C := RX0) (T := TX0) (N := 3) hx hb hts in_X0 tyX0 tyX0_ok nmX0 hown hK hP hD hS 0 rfl rfl 1 (by decide) (hts _ q369) (fun _ h9 => h9) rfl (by decide +kernel) rfl rfl (Nat.le_of_ble_eq_true rfl) dX0_init_15 (fun H locs hP hD hS => ?_)
  have hP : va_P D vwCl [(h0, .inr (0, [.ref q0, .int (-1), .int 0])), (q0, .inl (c0, 4096, .inl (fun _ => 0)))] H := hP
  have hD : va_D A [(h0, .inr (0, [.ref q0, .int (-1), .int 0])), (q0, .inl (c0, 4096, .inl (fun _ => 0)))] := hD
  have hP9 := hP.sub (ws' := [(h0, .inr (0, [.ref q0, .int (-1), .int 0])), (q0, .inl (c0, 4096, .inl (fun _ => 0)))]) [0, 1] rfl
  have hD9 := hD.sub (ws' := [(h0, .inr (0, [.ref q0, .int (-1), .int 0])), (q0, .inl (c0, 4096, .inl (fun _ => 0)))]) [0, 1] (by decide) rfl
  have hK9 := hK.sub (tys' := [(c0, .byte)]) [0] rfl
  refine W.widen (k := 1) (n := 4096) (by omega) (by omega) ?_
  exact W.vret hx hb hr (fun t ht hW => ⟨⟨(q0, c0), rfl, trivial, hk_at ht hW hP9 hK9 hD9⟩, hS.F ht⟩) hS.2.2 dX0_init_18
set_option maxHeartbeats 4000000 in
set_option maxRecDepth 100000 in
/-- cell -/
theorem met_ce (l : Launch) (D : va_G) (b L : Nat) (xs : Nat → Int32) (j : Nat) (hL : L < 2 ^ 20) (hj : j < 2 ^ 20) : Met l yX0_cell (ws_ yX0_cell cX0_cell 2 (some .int)) ({ frames := 0, cells := 0, slots := 0, locals := 0 }) (va_Pc [.ref b, .int (nI j)] (fun U => va_X b L xs U U.heap)) (vp_Si (fun r => r = cxs L xs j)) 0 0 (fun _ => False) := by
  refine Met.ofW (cc := cX0_cell) (maxL := 2) (ret := (some .int)) (by decide +kernel) rfl ?_
  intro p e s m args below meth c s₁ B hml hv
  obtain ⟨rfl, hX⟩ := hv
  have hx := B.exec
  have hb := B.bytes
  have hr := B.returns
  have hts := atoms_spec (ws := (ws_ yX0_cell cX0_cell 2 (some .int))) B.pre
  have hts : ∀ w ∈ lw_all, w.before _ s = true := fun w h => hts w (List.mem_cons_of_mem _ h)
  have hown : s.vm.findClass RX0 = some m.cls := findClass_of_methodNamed B.named
  have hlocks := B.notSynchronized
  have hl := lv_entry ([.ref b, .int (nI j)]) (n := 2) (Nat.le_of_ble_eq_true rfl)
  rw [lg_entry_eq]
  generalize (lg_sl ([.ref b, .int (nI j)]) ++ List.replicate (2 - (lg_sl ([.ref b, .int (nI j)])).length) Slot.unset).toArray = ls at hl ⊢
  have hl : lv_has ls 2 [(0, .ref b), (1, .int (nI j))] := hl
  have hbl : b < s.heap.size := by obtain ⟨scr, hcb, -⟩ := hX; exact (Array.getElem?_eq_some_iff.mp hcb).1
  have hS : va_S (fun _ => False) s.heap s.heap [] := va_S.rf
  refine lv_iload_n hx hb dX0_cell_0 rfl (lv_at hl 1 rfl) ?_
  refine lv_aload_n hx hb dX0_cell_1 rfl (lv_at hl 0 rfl) ?_
  refine va_slen hx hb hX hbl id hS dX0_cell_2 ?_
  refine lv_icmp_ge (tgt := 12) hx hb dX0_cell_3 (by decide) (fun c_1 => ?_) (fun c_1 => ?_)
  · have h1 := le_of_nI (by omega) (by omega) c_1
    refine lv_iconst (v := 0) hx hb dX0_cell_12 (by decide) ?_
    exact W.iret (v := 0) hx hb hr (fun t ht hW => ⟨_, rfl, (if_neg (by omega)).symm, ht⟩) (fun q hq => by cases hq) dX0_cell_13
  · have h1 := lt_of_nle (by omega) (by omega) c_1
    refine lv_aload_n hx hb dX0_cell_6 rfl (lv_at hl 0 rfl) ?_
    refine lv_iload_n hx hb dX0_cell_7 rfl (lv_at hl 1 rfl) ?_
    refine va_sld hx hb hX hbl id hS (vp_in_nI h1 (by omega)) dX0_cell_8 ?_
    refine hk_ti (y := xs j) (by rw [nI_clamp (by omega)]) ?_
    refine lv_goto (tgt := 13) hx hb dX0_cell_9 (by decide) ?_
    exact W.iret (v := xs j) hx hb hr (fun t ht hW => ⟨_, rfl, (if_pos h1).symm, ht⟩) (fun q hq => by cases hq) dX0_cell_13
set_option maxHeartbeats 4000000 in
set_option maxRecDepth 100000 in
/-- due -/
theorem met_du (l : Launch) (D : va_G) (h0 n0 : Nat) (c0 : ClassId) (a0 : Nat → Int32) (k : Nat) (z : Int32) (hn : n0 < 2 ^ 20) (hk : k ≤ n0) : Met l yX0_due (ws_ yX0_due cX0_due 6 (some .int)) ({ frames := 1, cells := 0, slots := 0, locals := 21 }) (va_Pc [.ref h0, .int (nI k), .int z] (hk_C D [(h0, .inl (c0, n0, .inl a0))] [(c0, .byte)])) (vp_Si (fun r => r = m_hash (fun j => uN (a0 j)) k z)) 0 0 (fun _ => False) := by
  refine Met.ofW (cc := cX0_due) (maxL := 6) (ret := (some .int)) (by decide +kernel) rfl ?_
  intro p e s m args below meth c s₁ B hml hv
  obtain ⟨rfl, hP, hK, hN⟩ := hv
  have hx := B.exec
  have hb := B.bytes
  have hr := B.returns
  have hts := atoms_spec (ws := (ws_ yX0_due cX0_due 6 (some .int))) B.pre
  have hts : ∀ w ∈ lw_all, w.before _ s = true := fun w h => hts w (List.mem_cons_of_mem _ h)
  have hown : s.vm.findClass RX0 = some m.cls := findClass_of_methodNamed B.named
  have hlocks := B.notSynchronized
  have hP : va_P D vwCl [(h0, .inl (c0, n0, .inl a0))] s.heap := hP
  have hl := lv_entry ([.ref h0, .int (nI k), .int z]) (n := 6) (Nat.le_of_ble_eq_true rfl)
  rw [lg_entry_eq]
  generalize (lg_sl ([.ref h0, .int (nI k), .int z]) ++ List.replicate (6 - (lg_sl ([.ref h0, .int (nI k), .int z])).length) Slot.unset).toArray = ls at hl ⊢
  have hl : lv_has ls 6 [(0, .ref h0), (1, .int (nI k)), (2, .int z)] := hl
  obtain ⟨d, hd⟩ : ∃ d : Nat → Nat, d = fun j => uN (a0 j) := ⟨_, rfl⟩
  have hq : 4 * (k / 4) + k % 4 = k := Nat.div_add_mod k 4
  refine lv_iload_n hx hb dX0_due_0 rfl (lv_at hl 2 rfl) ?_
  refine lv_istore_n (lv' := [(3, .int z), (0, .ref h0), (1, .int (nI k)), (2, .int z)]) hx hb dX0_due_1 rfl hl (by decide) rfl (fun ls hl => ?_)
  refine lv_iconst (v := 0) hx hb dX0_due_2 (by decide) ?_
  refine lv_istore (lv' := [(4, .int 0), (3, .int z), (0, .ref h0), (1, .int (nI k)), (2, .int z)]) hx hb dX0_due_3 hl (by decide) rfl (fun ls hl => ?_)
  refine lv_iconst (v := 0) hx hb dX0_due_5 (by decide) ?_
  refine lv_istore (lv' := [(5, .int 0), (4, .int 0), (3, .int z), (0, .ref h0), (1, .int (nI k)), (2, .int z)]) hx hb dX0_due_6 hl (by decide) rfl (fun ls hl => ?_)
  have loop2 : ∀ (n : Nat) (t : Nat), t ≤ k % 4 → t + 1 ≤ n → ∀ (ls : Array Slot), lv_has ls 6 [(3, .int (m_blk d z (k / 4))), (4, .int (nI (wN d (4 * (k / 4) + t) (k % 4 - t)))), (5, .int (nI (4 * (k / 4) + t) - 1)), (0, .ref h0), (1, .int (nI k)), (2, .int z)] → W p l e (headSpec (ws_ yX0_due cX0_due 6 (some .int)) ({ frames := 1, cells := 0, slots := 0, locals := 21 })).room s m ([.ref h0, .int (nI k), .int z] : List Value).toArray below meth c s.heap [] 0 0 (MQ below (vp_Si (fun r => r = m_hash (fun j => uN (a0 j)) k z)) ([.ref h0, .int (nI k), .int z] : List Value).toArray s 0 0 (fun _ => False)) (F0 m 94 ls []) := by
    intro n
    induction n with
    | zero =>
      intro t ht hfu
      exact absurd hfu (by omega)
    | succ n ih =>
      intro t ht hfu ls hl
      cases t with
      | zero =>
        refine lv_iload hx hb dX0_due_94 (lv_at hl 2 rfl) ?_
        refine lv_iload_n hx hb dX0_due_96 rfl (lv_at hl 4 rfl) ?_
        refine lv_iload_n hx hb dX0_due_97 rfl (lv_at hl 4 rfl) ?_
        refine lv_iconst (v := 4) hx hb dX0_due_98 (by decide) ?_
        refine lv_irem hx hb dX0_due_99 (by decide) ?_
        refine hk_ti (y := nI (k % 4)) (pk_rem (d := 4) (by omega) (by decide) (by decide)) ?_
        refine lv_isub hx hb dX0_due_100 ?_
        refine hk_ti (y := nI (4 * (k / 4))) (by rw [pk_sub (Nat.mod_le k 4)]; exact congrArg nI (by omega)) ?_
        refine lv_icmp_lt (tgt := 126) hx hb dX0_due_101 (by decide) (fun c_1 => ?_) (fun c_1 => absurd (nI_ltp (by omega)) c_1)
        refine lv_iload_n hx hb dX0_due_126 rfl (lv_at hl 0 rfl) ?_
        refine lv_iload hx hb dX0_due_127 (lv_at hl 1 rfl) ?_
        refine vp_callSi (va_Run.run (va_runS (As := [.int (nI (wN d (4 * (k / 4) + 0) (k % 4 - 0)))]) (rest := [.int (m_blk d z (k / 4))]) ⟨hx, hb, hml, hown, hts⟩ (met_mx l D (nI (wN d (4 * (k / 4) + 0) (k % 4 - 0)))) (va_cwS 1 hts (lw_S q388 q389 q6 q390) rfl rfl rfl (by decide +kernel) ⟨Nat.le_of_ble_eq_true rfl, Nat.le_of_ble_eq_true rfl⟩) (hk_CS (hP.sub (ws' := []) [] rfl) (hK.sub (tys' := []) [] rfl) hN) rfl rfl hl.1 rfl (lv_room (Nat.le_of_ble_eq_true rfl)) dX0_due_129 ⟨Nat.le_of_ble_eq_true rfl, Nat.le_of_ble_eq_true rfl⟩)) (fun r_2 hr_2 => ?_)
        obtain rfl : r_2 = m_k (nI (wN d (4 * (k / 4) + 0) (k % 4 - 0))) := hr_2
        refine lv_ixor hx hb dX0_due_132 ?_
        refine lv_iload_n hx hb dX0_due_133 rfl (lv_at hl 4 rfl) ?_
        refine lv_ixor hx hb dX0_due_134 ?_
        refine lv_istore_n (lv' := [(3, .int (((m_blk d z (k / 4)) ^^^ (m_k (nI (wN d (4 * (k / 4) + 0) (k % 4 - 0))))) ^^^ (nI k))), (4, .int (nI (wN d (4 * (k / 4) + 0) (k % 4 - 0)))), (5, .int (nI (4 * (k / 4) + 0) - 1)), (0, .ref h0), (1, .int (nI k)), (2, .int z)]) hx hb dX0_due_135 rfl hl (by decide) rfl (fun ls hl => ?_)
        refine lv_iload_n hx hb dX0_due_136 rfl (lv_at hl 0 rfl) ?_
        refine lv_iload_n hx hb dX0_due_137 rfl (lv_at hl 0 rfl) ?_
        refine lv_bipush (v := 16) hx hb dX0_due_138 (by decide) ?_
        refine lv_iushr (v := m_us (((m_blk d z (k / 4)) ^^^ (m_k (nI (wN d (4 * (k / 4) + 0) (k % 4 - 0))))) ^^^ (nI k)) 16) hx hb dX0_due_140 rfl ?_
        refine lv_ixor hx hb dX0_due_141 ?_
        refine lv_ldc hx hb hown (hts _ q394) dX0_due_142 ?_
        refine lv_imul hx hb dX0_due_144 ?_
        refine hk_ti (y := m_f1 ((m_blk d z (k / 4) ^^^ m_k (nI (wN d (4 * (k / 4) + 0) (k % 4 - 0)))) ^^^ nI k)) (rfl) ?_
        refine lv_istore_n (lv' := [(3, .int (m_f1 ((m_blk d z (k / 4) ^^^ m_k (nI (wN d (4 * (k / 4) + 0) (k % 4 - 0)))) ^^^ nI k))), (4, .int (nI (wN d (4 * (k / 4) + 0) (k % 4 - 0)))), (5, .int (nI (4 * (k / 4) + 0) - 1)), (0, .ref h0), (1, .int (nI k)), (2, .int z)]) hx hb dX0_due_145 rfl hl (by decide) rfl (fun ls hl => ?_)
        refine lv_iload_n hx hb dX0_due_146 rfl (lv_at hl 0 rfl) ?_
        refine lv_iload_n hx hb dX0_due_147 rfl (lv_at hl 0 rfl) ?_
        refine lv_bipush (v := 13) hx hb dX0_due_148 (by decide) ?_
        refine lv_iushr (v := m_us (m_f1 ((m_blk d z (k / 4) ^^^ m_k (nI (wN d (4 * (k / 4) + 0) (k % 4 - 0)))) ^^^ nI k)) 13) hx hb dX0_due_150 rfl ?_
        refine lv_ixor hx hb dX0_due_151 ?_
        refine lv_ldc hx hb hown (hts _ q395) dX0_due_152 ?_
        refine lv_imul hx hb dX0_due_154 ?_
        refine hk_ti (y := m_f2 (m_f1 ((m_blk d z (k / 4) ^^^ m_k (nI (wN d (4 * (k / 4) + 0) (k % 4 - 0)))) ^^^ nI k))) (rfl) ?_
        refine lv_istore_n (lv' := [(3, .int (m_f2 (m_f1 ((m_blk d z (k / 4) ^^^ m_k (nI (wN d (4 * (k / 4) + 0) (k % 4 - 0)))) ^^^ nI k)))), (4, .int (nI (wN d (4 * (k / 4) + 0) (k % 4 - 0)))), (5, .int (nI (4 * (k / 4) + 0) - 1)), (0, .ref h0), (1, .int (nI k)), (2, .int z)]) hx hb dX0_due_155 rfl hl (by decide) rfl (fun ls hl => ?_)
        refine lv_iload_n hx hb dX0_due_156 rfl (lv_at hl 0 rfl) ?_
        refine lv_iload_n hx hb dX0_due_157 rfl (lv_at hl 0 rfl) ?_
        refine lv_bipush (v := 16) hx hb dX0_due_158 (by decide) ?_
        refine lv_iushr (v := m_us (m_f2 (m_f1 ((m_blk d z (k / 4) ^^^ m_k (nI (wN d (4 * (k / 4) + 0) (k % 4 - 0)))) ^^^ nI k))) 16) hx hb dX0_due_160 rfl ?_
        refine lv_ixor hx hb dX0_due_161 ?_
        refine hk_ti (y := m_hash d k z) (rfl) ?_
        exact W.iret (v := m_hash d k z) hx hb hr (fun t ht hW => ⟨_, rfl, by rw [hd], ht⟩) (fun q hq => by cases hq) dX0_due_162
      | succ t =>
        rw [show nI (4 * (k / 4) + (t + 1)) - 1 = nI (4 * (k / 4) + t) from nI_pred (4 * (k / 4) + t)] at hl
        refine lv_iload hx hb dX0_due_94 (lv_at hl 2 rfl) ?_
        refine lv_iload_n hx hb dX0_due_96 rfl (lv_at hl 4 rfl) ?_
        refine lv_iload_n hx hb dX0_due_97 rfl (lv_at hl 4 rfl) ?_
        refine lv_iconst (v := 4) hx hb dX0_due_98 (by decide) ?_
        refine lv_irem hx hb dX0_due_99 (by decide) ?_
        refine hk_ti (y := nI (k % 4)) (pk_rem (d := 4) (by omega) (by decide) (by decide)) ?_
        refine lv_isub hx hb dX0_due_100 ?_
        refine hk_ti (y := nI (4 * (k / 4))) (by rw [pk_sub (Nat.mod_le k 4)]; exact congrArg nI (by omega)) ?_
        refine lv_icmp_lt (tgt := 126) hx hb dX0_due_101 (by decide) (fun c_3 => absurd c_3 (nI_nlt (by omega) (by omega))) (fun c_3 => ?_)
        refine lv_iload hx hb dX0_due_104 (lv_at hl 1 rfl) ?_
        refine lv_bipush (v := 8) hx hb dX0_due_106 (by decide) ?_
        refine lv_ishl hx hb dX0_due_108 ?_
        refine lv_aload_n hx hb dX0_due_109 rfl (lv_at hl 3 rfl) ?_
        refine lv_iload hx hb dX0_due_110 (lv_at hl 2 rfl) ?_
        refine va_bald hx hb hK hP 0 0 rfl rfl (vp_in_nI (by omega) (by omega)) dX0_due_112 ?_
        refine hk_ti (y := a0 (4 * (k / 4) + t)) (by rw [nI_clamp (by omega)]) ?_
        refine lv_sipush (v := 255) hx hb dX0_due_113 (by decide) ?_
        refine lv_iand hx hb dX0_due_116 ?_
        refine lv_ior hx hb dX0_due_117 ?_
        refine hk_ti (y := nI (wN d (4 * (k / 4) + t) (k % 4 - t))) (by rw [show k % 4 - t = k % 4 - (t + 1) + 1 by omega]; exact tail_step d (4 * (k / 4) + t) _ (by omega) _ (by rw [hd])) ?_
        refine lv_istore (lv' := [(4, .int (nI (wN d (4 * (k / 4) + t) (k % 4 - t)))), (3, .int (m_blk d z (k / 4))), (5, .int (nI (4 * (k / 4) + t))), (0, .ref h0), (1, .int (nI k)), (2, .int z)]) hx hb dX0_due_118 hl (by decide) rfl (fun ls hl => ?_)
        refine lv_iinc (v := nI (4 * (k / 4) + t) - 1) (lv' := [(5, .int (nI (4 * (k / 4) + t) - 1)), (4, .int (nI (wN d (4 * (k / 4) + t) (k % 4 - t)))), (3, .int (m_blk d z (k / 4))), (0, .ref h0), (1, .int (nI k)), (2, .int z)]) hx hb dX0_due_120 hl (k := 2) rfl (nI_dec _) (by decide) rfl (fun ls hl => ?_)
        refine lv_goto (tgt := 94) hx hb dX0_due_123 (by decide) ?_
        have hl := lv_sub hl (l' := [(3, .int (m_blk d z (k / 4))), (4, .int (nI (wN d (4 * (k / 4) + t) (k % 4 - t)))), (5, .int (nI (4 * (k / 4) + t) - 1)), (0, .ref h0), (1, .int (nI k)), (2, .int z)]) [2, 1, 0, 3, 4, 5] rfl
        exact ih t (by omega) (by omega) ls hl
  have loop1 : ∀ (n : Nat) (b : Nat), b ≤ k / 4 → k / 4 + 1 ≤ b + n → ∀ (ls : Array Slot), lv_has ls 6 [(3, .int (m_blk d z b)), (4, .int 0), (5, .int (nI (4 * b))), (0, .ref h0), (1, .int (nI k)), (2, .int z)] → W p l e (headSpec (ws_ yX0_due cX0_due 6 (some .int)) ({ frames := 1, cells := 0, slots := 0, locals := 21 })).room s m ([.ref h0, .int (nI k), .int z] : List Value).toArray below meth c s.heap [] 0 0 (MQ below (vp_Si (fun r => r = m_hash (fun j => uN (a0 j)) k z)) ([.ref h0, .int (nI k), .int z] : List Value).toArray s 0 0 (fun _ => False)) (F0 m 8 ls []) := by
    intro n
    induction n with
    | zero =>
      intro b hb4 hfu
      exact absurd hfu (by omega)
    | succ n ih =>
      intro b hb4 hfu ls hl
      refine lv_iload hx hb dX0_due_8 (lv_at hl 2 rfl) ?_
      refine lv_iconst (v := 4) hx hb dX0_due_10 (by decide) ?_
      refine lv_iadd hx hb dX0_due_11 ?_
      refine hk_ti (y := nI (4 * b + 4)) (nI_inc (4 * b) 4 rfl) ?_
      refine lv_iload_n hx hb dX0_due_12 rfl (lv_at hl 4 rfl) ?_
      refine lv_icmp_gt (tgt := 89) hx hb dX0_due_13 (by decide) (fun c_4 => ?_) (fun c_4 => ?_)
      · have hb5 : b = k / 4 := by have h9 := lt_of_nI (by omega) (by omega) c_4; omega
        rw [hb5] at hl
        refine lv_iload_n hx hb dX0_due_89 rfl (lv_at hl 4 rfl) ?_
        refine lv_iconst (v := 1) hx hb dX0_due_90 (by decide) ?_
        refine lv_isub hx hb dX0_due_91 ?_
        refine hk_ti (y := nI (4 * (k / 4) + k % 4) - 1) (by rw [hq]) ?_
        refine lv_istore (lv' := [(5, .int (nI (4 * (k / 4) + k % 4) - 1)), (3, .int (m_blk d z (k / 4))), (4, .int 0), (0, .ref h0), (1, .int (nI k)), (2, .int z)]) hx hb dX0_due_92 hl (by decide) rfl (fun ls hl => ?_)
        have hl := lv_sub hl (l' := [(3, .int (m_blk d z (k / 4))), (4, .int 0), (5, .int (nI (4 * (k / 4) + k % 4) - 1)), (0, .ref h0), (1, .int (nI k)), (2, .int z)]) [1, 2, 0, 3, 4, 5] rfl
        exact loop2 (k % 4 + 1) (k % 4) (Nat.le_refl _) (Nat.le_refl _) ls (by rw [Nat.sub_self]; exact hl)
      · have hb5 : 4 * b + 4 ≤ k := by have h9 := le_of_nlt (by omega) (by omega) c_4; omega
        refine lv_iload_n hx hb dX0_due_16 rfl (lv_at hl 0 rfl) ?_
        refine lv_aload_n hx hb dX0_due_17 rfl (lv_at hl 3 rfl) ?_
        refine lv_iload hx hb dX0_due_18 (lv_at hl 2 rfl) ?_
        refine va_bald hx hb hK hP 0 0 rfl rfl (vp_in_nI (by omega) (by omega)) dX0_due_20 ?_
        refine hk_ti (y := a0 (4 * b)) (by rw [nI_clamp (by omega)]) ?_
        refine lv_sipush (v := 255) hx hb dX0_due_21 (by decide) ?_
        refine lv_iand hx hb dX0_due_24 ?_
        refine lv_aload_n hx hb dX0_due_25 rfl (lv_at hl 3 rfl) ?_
        refine lv_iload hx hb dX0_due_26 (lv_at hl 2 rfl) ?_
        refine lv_iconst (v := 1) hx hb dX0_due_28 (by decide) ?_
        refine lv_iadd hx hb dX0_due_29 ?_
        refine hk_ti (y := nI (4 * b + 1)) (nI_inc (4 * b) 1 rfl) ?_
        refine va_bald hx hb hK hP 0 0 rfl rfl (vp_in_nI (by omega) (by omega)) dX0_due_30 ?_
        refine hk_ti (y := a0 (4 * b + 1)) (by rw [nI_clamp (by omega)]) ?_
        refine lv_sipush (v := 255) hx hb dX0_due_31 (by decide) ?_
        refine lv_iand hx hb dX0_due_34 ?_
        refine lv_bipush (v := 8) hx hb dX0_due_35 (by decide) ?_
        refine lv_ishl hx hb dX0_due_37 ?_
        refine lv_ior hx hb dX0_due_38 ?_
        refine lv_aload_n hx hb dX0_due_39 rfl (lv_at hl 3 rfl) ?_
        refine lv_iload hx hb dX0_due_40 (lv_at hl 2 rfl) ?_
        refine lv_iconst (v := 2) hx hb dX0_due_42 (by decide) ?_
        refine lv_iadd hx hb dX0_due_43 ?_
        refine hk_ti (y := nI (4 * b + 2)) (nI_inc (4 * b) 2 rfl) ?_
        refine va_bald hx hb hK hP 0 0 rfl rfl (vp_in_nI (by omega) (by omega)) dX0_due_44 ?_
        refine hk_ti (y := a0 (4 * b + 2)) (by rw [nI_clamp (by omega)]) ?_
        refine lv_sipush (v := 255) hx hb dX0_due_45 (by decide) ?_
        refine lv_iand hx hb dX0_due_48 ?_
        refine lv_bipush (v := 16) hx hb dX0_due_49 (by decide) ?_
        refine lv_ishl hx hb dX0_due_51 ?_
        refine lv_ior hx hb dX0_due_52 ?_
        refine lv_aload_n hx hb dX0_due_53 rfl (lv_at hl 3 rfl) ?_
        refine lv_iload hx hb dX0_due_54 (lv_at hl 2 rfl) ?_
        refine lv_iconst (v := 3) hx hb dX0_due_56 (by decide) ?_
        refine lv_iadd hx hb dX0_due_57 ?_
        refine hk_ti (y := nI (4 * b + 3)) (nI_inc (4 * b) 3 rfl) ?_
        refine va_bald hx hb hK hP 0 0 rfl rfl (vp_in_nI (by omega) (by omega)) dX0_due_58 ?_
        refine hk_ti (y := a0 (4 * b + 3)) (by rw [nI_clamp (by omega)]) ?_
        refine lv_bipush (v := 24) hx hb dX0_due_59 (by decide) ?_
        refine lv_ishl hx hb dX0_due_61 ?_
        refine lv_ior hx hb dX0_due_62 ?_
        refine hk_ti (y := nI (wN d (4 * b) 4)) (by rw [hd]; exact le4_nI a0 (4 * b) (le4_u _ _ _ _)) ?_
        refine vp_callSi (va_Run.run (va_runS (As := [.int (nI (wN d (4 * b) 4))]) (rest := [.int (m_blk d z b)]) ⟨hx, hb, hml, hown, hts⟩ (met_mx l D (nI (wN d (4 * b) 4))) (va_cwS 1 hts (lw_S q388 q389 q6 q390) rfl rfl rfl (by decide +kernel) ⟨Nat.le_of_ble_eq_true rfl, Nat.le_of_ble_eq_true rfl⟩) (hk_CS (hP.sub (ws' := []) [] rfl) (hK.sub (tys' := []) [] rfl) hN) rfl rfl hl.1 rfl (lv_room (Nat.le_of_ble_eq_true rfl)) dX0_due_63 ⟨Nat.le_of_ble_eq_true rfl, Nat.le_of_ble_eq_true rfl⟩)) (fun r_5 hr_5 => ?_)
        obtain rfl : r_5 = m_k (nI (wN d (4 * b) 4)) := hr_5
        refine lv_ixor hx hb dX0_due_66 ?_
        refine lv_istore_n (lv' := [(3, .int ((m_blk d z b) ^^^ (m_k (nI (wN d (4 * b) 4))))), (4, .int 0), (5, .int (nI (4 * b))), (0, .ref h0), (1, .int (nI k)), (2, .int z)]) hx hb dX0_due_67 rfl hl (by decide) rfl (fun ls hl => ?_)
        refine lv_iload_n hx hb dX0_due_68 rfl (lv_at hl 0 rfl) ?_
        refine lv_bipush (v := 13) hx hb dX0_due_69 (by decide) ?_
        refine lv_ishl hx hb dX0_due_71 ?_
        refine lv_iload_n hx hb dX0_due_72 rfl (lv_at hl 0 rfl) ?_
        refine lv_bipush (v := 19) hx hb dX0_due_73 (by decide) ?_
        refine lv_iushr (v := m_us ((m_blk d z b) ^^^ (m_k (nI (wN d (4 * b) 4)))) 19) hx hb dX0_due_75 rfl ?_
        refine lv_ior hx hb dX0_due_76 ?_
        refine lv_iconst (v := 5) hx hb dX0_due_77 (by decide) ?_
        refine lv_imul hx hb dX0_due_78 ?_
        refine lv_ldc hx hb hown (hts _ q393) dX0_due_79 ?_
        refine lv_iadd hx hb dX0_due_81 ?_
        refine hk_ti (y := m_blk d z (b + 1)) (m_h_law _ _) ?_
        refine lv_istore_n (lv' := [(3, .int (m_blk d z (b + 1))), (4, .int 0), (5, .int (nI (4 * b))), (0, .ref h0), (1, .int (nI k)), (2, .int z)]) hx hb dX0_due_82 rfl hl (by decide) rfl (fun ls hl => ?_)
        refine lv_iinc (v := nI (4 * (b + 1))) (lv' := [(5, .int (nI (4 * (b + 1)))), (3, .int (m_blk d z (b + 1))), (4, .int 0), (0, .ref h0), (1, .int (nI k)), (2, .int z)]) hx hb dX0_due_83 hl (k := 2) rfl (nI_o4 _) (by decide) rfl (fun ls hl => ?_)
        refine lv_goto (tgt := 8) hx hb dX0_due_86 (by decide) ?_
        have hl := lv_sub hl (l' := [(3, .int (m_blk d z (b + 1))), (4, .int 0), (5, .int (nI (4 * (b + 1)))), (0, .ref h0), (1, .int (nI k)), (2, .int z)]) [1, 2, 0, 3, 4, 5] rfl
        exact ih (b + 1) (by omega) (by omega) ls hl
  have hl := lv_sub hl (l' := [(3, .int z), (4, .int 0), (5, .int 0), (0, .ref h0), (1, .int (nI k)), (2, .int z)]) [2, 1, 0, 3, 4, 5] rfl
  exact loop1 (k / 4 + 1) 0 (Nat.zero_le _) (by omega) ls hl
set_option maxHeartbeats 4000000 in
set_option maxRecDepth 100000 in
/-- bytes -/
theorem met_by (l : Launch) (D : va_G) (sz : Nat) (v : Int64) (k : Nat) (hk : k ≤ 8) : Met l yX0_bytes (ws_ yX0_bytes cX0_bytes 5 (some (.array .byte))) ({ frames := 0, cells := 1, slots := 8, locals := 0 }) (va_Pc [.long v, .int (nI k)] (hk_B D [] [] sz)) (va_Qr (S := (ClassId × (Nat → Int32))) (fun u => ∀ j, j < k → uN (u.2 j) % 256 = gL (uL v) j % 256) (fun u q => hk_E D ([(q, .inl (u.1, k, .inl u.2))]) ([(u.1, .byte)]) (va_A [] sz)) (va_A [] sz)) 1 8 (va_A [] sz) := by
  refine Met.ofW (cc := cX0_bytes) (maxL := 5) (ret := (some (.array .byte))) (by decide +kernel) rfl ?_
  intro p e s m args below meth c s₁ B hml hv
  obtain ⟨rfl, hsz, hP, hK, hD0, hN⟩ := hv
  have hx := B.exec
  have hb := B.bytes
  have hr := B.returns
  have hts := atoms_spec (ws := (ws_ yX0_bytes cX0_bytes 5 (some (.array .byte)))) B.pre
  have hts : ∀ w ∈ lw_all, w.before _ s = true := fun w h => hts w (List.mem_cons_of_mem _ h)
  have hown : s.vm.findClass RX0 = some m.cls := findClass_of_methodNamed B.named
  have hlocks := B.notSynchronized
  subst hsz
  have hD := hD0.self (sz := s.heap.size)
  generalize hAe : va_A [] s.heap.size = A at hD ⊢
  have hA : ∀ q : Nat, s.heap.size ≤ q → A q := fun q h => by rw [← hAe]; exact Or.inr h
  have hS : va_S A s.heap s.heap [] := va_S.rf
  have hP : va_P D vwCl [] s.heap := hP
  have hl := lv_entry ([.long v, .int (nI k)]) (n := 5) (Nat.le_of_ble_eq_true rfl)
  rw [lg_entry_eq]
  generalize (lg_sl ([.long v, .int (nI k)]) ++ List.replicate (5 - (lg_sl ([.long v, .int (nI k)])).length) Slot.unset).toArray = ls at hl ⊢
  have hl : lv_has ls 5 [(0, .long v), (2, .int (nI k))] := hl
  refine lv_iload_n hx hb dX0_bytes_0 rfl (lv_at hl 1 rfl) ?_
  refine va_newa (atype := .byte) (ty := .byte) (N' := k) (a0 := (k, .inl (fun _ => 0))) hx hb (hts _ q45) rfl hK hP hD hS hA (fun _ => rfl) (nI_pos (by omega)) (nI_clamp (by omega)) (by show k * 1 ≤ 536870912; omega) (Nat.le_of_ble_eq_true rfl) (by show 0 + k ≤ 8; omega) dX0_bytes_1 (fun q0 c9 H hK hP hD hS => ?_)
  have hP : va_P D vwCl [(q0, .inl (c9, k, .inl (fun _ => 0)))] H := hP
  have hD : va_D A [(q0, .inl (c9, k, .inl (fun _ => 0)))] := hD
  have hK : va_K D vwCl [(c9, .byte)] s := hK
  refine lv_astore_n (lv' := [(3, .ref q0), (0, .long v), (2, .int (nI k))]) hx hb dX0_bytes_3 rfl hl (by decide) rfl (fun ls hl => ?_)
  refine lv_iconst (v := 0) hx hb dX0_bytes_4 (by decide) ?_
  refine lv_istore (lv' := [(4, .int 0), (3, .ref q0), (0, .long v), (2, .int (nI k))]) hx hb dX0_bytes_5 hl (by decide) rfl (fun ls hl => ?_)
  have loop1 : ∀ (n : Nat) (i : Nat) (f : Nat → Int32), i ≤ k → k + 1 ≤ i + n → (∀ j, j < i → uN (f j) % 256 = gL (uL v) j % 256) → ∀ (H : Heap) (locs : List Loc), va_P D vwCl [(q0, .inl (c9, k, .inl f))] H → va_D A [(q0, .inl (c9, k, .inl f))] → va_S A s.heap H locs → ∀ (ls : Array Slot), lv_has ls 5 [(4, .int (nI i)), (3, .ref q0), (0, .long v), (2, .int (nI k))] → W p l e (headSpec (ws_ yX0_bytes cX0_bytes 5 (some (.array .byte))) ({ frames := 0, cells := 1, slots := 8, locals := 0 })).room s m ([.long v, .int (nI k)] : List Value).toArray below meth c H locs (0 + 1) (0 + k) (MQ below (va_Qr (S := (ClassId × (Nat → Int32))) (fun u => ∀ j, j < k → uN (u.2 j) % 256 = gL (uL v) j % 256) (fun u q => hk_E D ([(q, .inl (u.1, k, .inl u.2))]) ([(u.1, .byte)]) A) A) ([.long v, .int (nI k)] : List Value).toArray s 1 8 A) (F0 m 7 ls []) := by
    intro n
    induction n with
    | zero =>
      intro i f hi hfu hf
      exact absurd hfu (by omega)
    | succ n ih =>
      intro i f hi hfu hf H locs hP hD hS ls hl
      refine lv_iload hx hb dX0_bytes_7 (lv_at hl 0 rfl) ?_
      refine lv_iload_n hx hb dX0_bytes_9 rfl (lv_at hl 3 rfl) ?_
      refine lv_icmp_ge (tgt := 32) hx hb dX0_bytes_10 (by decide) (fun c_1 => ?_) (fun c_1 => ?_)
      · have hi5 : i = k := by have h9 := le_of_nI (by omega) (by omega) c_1; omega
        rw [hi5] at hf
        refine lv_aload_n hx hb dX0_bytes_32 rfl (lv_at hl 1 rfl) ?_
        have hP9 := hP.sub (ws' := [(q0, .inl (c9, k, .inl f))]) [0] rfl
        have hD9 := hD.sub (ws' := [(q0, .inl (c9, k, .inl f))]) [0] (by decide) rfl
        have hK9 := hK.sub (tys' := [(c9, .byte)]) [0] rfl
        refine W.widen (k := 1) (n := 8) (by omega) (by omega) ?_
        exact W.aret (v := .ref q0) hx hb hr (Or.inr ⟨_, rfl⟩) (Or.inr ⟨_, rfl⟩) (fun t ht hW => ⟨⟨(c9, f), _, rfl, hf, hk_at ht hW hP9 hK9 hD9⟩, hS.F ht⟩) hS.2.2 dX0_bytes_33
      · have hi5 : i < k := lt_of_nle (by omega) (by omega) c_1
        refine lv_aload_n hx hb dX0_bytes_13 rfl (lv_at hl 1 rfl) ?_
        refine lv_iload hx hb dX0_bytes_14 (lv_at hl 0 rfl) ?_
        refine lv_lload_n hx hb dX0_bytes_16 rfl (lv_at hl 2 rfl) ?_
        refine lv_bipush (v := 8) hx hb dX0_bytes_17 (by decide) ?_
        refine lv_iload hx hb dX0_bytes_19 (lv_at hl 0 rfl) ?_
        refine lv_imul hx hb dX0_bytes_21 ?_
        refine hk_ti (y := nI (8 * i)) (pk_mul 8 i) ?_
        refine lv_lushr (v := (v.toUInt64 >>> ((nI (8 * i) : Int32).toInt64.toUInt64 &&& Int64.toUInt64 63)).toInt64) hx hb dX0_bytes_22 rfl ?_
        refine lv_l2i (v := ((v.toUInt64 >>> ((nI (8 * i) : Int32).toInt64.toUInt64 &&& Int64.toUInt64 63)).toInt64).toInt32) hx hb dX0_bytes_23 rfl ?_
        refine lv_i2b (v := (((v.toUInt64 >>> ((nI (8 * i) : Int32).toInt64.toUInt64 &&& Int64.toUInt64 63)).toInt64).toInt32 : Int32).toInt8.toInt32) hx hb dX0_bytes_24 rfl ?_
        refine va_bast hx hb hK hP hD hS 0 0 rfl rfl (vp_in_nI hi5 (by omega)) dX0_bytes_25 (fun H locs hP hD hS => ?_)
        have hP : va_P D vwCl [(q0, .inl (c9, k, .inl (upd f (nI i).toNatClampNeg (vp_nar .byte ((((v.toUInt64 >>> ((nI (8 * i) : Int32).toInt64.toUInt64 &&& Int64.toUInt64 63)).toInt64).toInt32 : Int32).toInt8.toInt32)))))] H := hP
        have hD : va_D A [(q0, .inl (c9, k, .inl (upd f (nI i).toNatClampNeg (vp_nar .byte ((((v.toUInt64 >>> ((nI (8 * i) : Int32).toInt64.toUInt64 &&& Int64.toUInt64 63)).toInt64).toInt32 : Int32).toInt8.toInt32)))))] := hD
        rw [show upd f (nI i).toNatClampNeg (vp_nar .byte ((((v.toUInt64 >>> ((nI (8 * i) : Int32).toInt64.toUInt64 &&& Int64.toUInt64 63)).toInt64).toInt32 : Int32).toInt8.toInt32)) = upd f i (vp_nar .byte ((v.toUInt64 >>> ((nI (8 * i)).toInt64.toUInt64 &&& Int64.toUInt64 63)).toInt64.toInt32.toInt8.toInt32)) from upd_cl (by omega) rfl] at hP hD
        have hP : va_P D vwCl [(q0, .inl (c9, k, .inl (upd f i (vp_nar .byte ((v.toUInt64 >>> ((nI (8 * i)).toInt64.toUInt64 &&& Int64.toUInt64 63)).toInt64.toInt32.toInt8.toInt32)))))] H := hP
        have hD : va_D A [(q0, .inl (c9, k, .inl (upd f i (vp_nar .byte ((v.toUInt64 >>> ((nI (8 * i)).toInt64.toUInt64 &&& Int64.toUInt64 63)).toInt64.toInt32.toInt8.toInt32)))))] := hD
        refine lv_iinc (v := nI (i + 1)) (lv' := [(4, .int (nI (i + 1))), (3, .ref q0), (0, .long v), (2, .int (nI k))]) hx hb dX0_bytes_26 hl (k := 0) rfl (nI_o1 _) (by decide) rfl (fun ls hl => ?_)
        refine lv_goto (tgt := 7) hx hb dX0_bytes_29 (by decide) ?_
        have hl := lv_sub hl (l' := [(4, .int (nI (i + 1))), (3, .ref q0), (0, .long v), (2, .int (nI k))]) [0, 1, 2, 3] rfl
        exact ih (i + 1) _ (by omega) (by omega) (bytes_step (by omega) hf) H locs hP hD hS ls hl
  have hl := lv_sub hl (l' := [(4, .int 0), (3, .ref q0), (0, .long v), (2, .int (nI k))]) [0, 1, 2, 3] rfl
  exact loop1 (k + 1) 0 (fun _ => 0) (Nat.zero_le _) (by omega) (fun j hj => absurd hj (Nat.not_lt_zero j)) _ _ hP hD hS ls hl
set_option maxHeartbeats 4000000 in
set_option maxRecDepth 100000 in
/-- part -/
theorem met_pa (l : Launch) (D : va_G) (sz : Nat) (h0 : Nat) (c0 : ClassId) (a0 : Nat → Int32) (fr k : Nat) (hk : fr + k ≤ 256) : Met l yX0_part (ws_ yX0_part cX0_part 5 (some (.array .byte))) ({ frames := 0, cells := 1, slots := 256, locals := 0 }) (va_Pc [.ref h0, .int (nI fr), .int (nI k)] (hk_B D [(h0, .inl (c0, 256, .inl a0))] [(c0, .byte)] sz)) (va_Qr (S := (ClassId × (Nat → Int32))) (fun u => ∀ j, j < k → uN (u.2 j) % 256 = uN (a0 (fr + j)) % 256) (fun u q => hk_E D ([(h0, .inl (c0, 256, .inl a0)), (q, .inl (u.1, k, .inl u.2))]) ([(c0, .byte), (u.1, .byte)]) (va_A [(h0, .inl (c0, 256, .inl a0))] sz)) (va_A [(h0, .inl (c0, 256, .inl a0))] sz)) 1 256 (va_A [(h0, .inl (c0, 256, .inl a0))] sz) := by
  refine Met.ofW (cc := cX0_part) (maxL := 5) (ret := (some (.array .byte))) (by decide +kernel) rfl ?_
  intro p e s m args below meth c s₁ B hml hv
  obtain ⟨rfl, hsz, hP, hK, hD0, hN⟩ := hv
  have hx := B.exec
  have hb := B.bytes
  have hr := B.returns
  have hts := atoms_spec (ws := (ws_ yX0_part cX0_part 5 (some (.array .byte)))) B.pre
  have hts : ∀ w ∈ lw_all, w.before _ s = true := fun w h => hts w (List.mem_cons_of_mem _ h)
  have hown : s.vm.findClass RX0 = some m.cls := findClass_of_methodNamed B.named
  have hlocks := B.notSynchronized
  subst hsz
  have hD := hD0.self (sz := s.heap.size)
  generalize hAe : va_A [(h0, .inl (c0, 256, .inl a0))] s.heap.size = A at hD ⊢
  have hA : ∀ q : Nat, s.heap.size ≤ q → A q := fun q h => by rw [← hAe]; exact Or.inr h
  have hS : va_S A s.heap s.heap [] := va_S.rf
  have hP : va_P D vwCl [(h0, .inl (c0, 256, .inl a0))] s.heap := hP
  have hl := lv_entry ([.ref h0, .int (nI fr), .int (nI k)]) (n := 5) (Nat.le_of_ble_eq_true rfl)
  rw [lg_entry_eq]
  generalize (lg_sl ([.ref h0, .int (nI fr), .int (nI k)]) ++ List.replicate (5 - (lg_sl ([.ref h0, .int (nI fr), .int (nI k)])).length) Slot.unset).toArray = ls at hl ⊢
  have hl : lv_has ls 5 [(0, .ref h0), (1, .int (nI fr)), (2, .int (nI k))] := hl
  refine lv_iload_n hx hb dX0_part_0 rfl (lv_at hl 2 rfl) ?_
  refine va_newa (atype := .byte) (ty := .byte) (N' := k) (a0 := (k, .inl (fun _ => 0))) hx hb (hts _ q45) rfl hK hP hD hS hA (fun _ => rfl) (nI_pos (by omega)) (nI_clamp (by omega)) (by show k * 1 ≤ 536870912; omega) (Nat.le_of_ble_eq_true rfl) (by show 0 + k ≤ 256; omega) dX0_part_1 (fun q0 c9 H hK hP hD hS => ?_)
  have hP : va_P D vwCl [(h0, .inl (c0, 256, .inl a0)), (q0, .inl (c9, k, .inl (fun _ => 0)))] H := hP
  have hD : va_D A [(h0, .inl (c0, 256, .inl a0)), (q0, .inl (c9, k, .inl (fun _ => 0)))] := hD
  have hK : va_K D vwCl [(c0, .byte), (c9, .byte)] s := hK
  refine lv_astore_n (lv' := [(3, .ref q0), (0, .ref h0), (1, .int (nI fr)), (2, .int (nI k))]) hx hb dX0_part_3 rfl hl (by decide) rfl (fun ls hl => ?_)
  refine lv_iconst (v := 0) hx hb dX0_part_4 (by decide) ?_
  refine lv_istore (lv' := [(4, .int 0), (3, .ref q0), (0, .ref h0), (1, .int (nI fr)), (2, .int (nI k))]) hx hb dX0_part_5 hl (by decide) rfl (fun ls hl => ?_)
  have loop1 : ∀ (n : Nat) (i : Nat) (f : Nat → Int32), i ≤ k → k + 1 ≤ i + n → (∀ j, j < i → uN (f j) % 256 = uN (a0 (fr + j)) % 256) → ∀ (H : Heap) (locs : List Loc), va_P D vwCl [(h0, .inl (c0, 256, .inl a0)), (q0, .inl (c9, k, .inl f))] H → va_D A [(h0, .inl (c0, 256, .inl a0)), (q0, .inl (c9, k, .inl f))] → va_S A s.heap H locs → ∀ (ls : Array Slot), lv_has ls 5 [(4, .int (nI i)), (3, .ref q0), (0, .ref h0), (1, .int (nI fr)), (2, .int (nI k))] → W p l e (headSpec (ws_ yX0_part cX0_part 5 (some (.array .byte))) ({ frames := 0, cells := 1, slots := 256, locals := 0 })).room s m ([.ref h0, .int (nI fr), .int (nI k)] : List Value).toArray below meth c H locs (0 + 1) (0 + k) (MQ below (va_Qr (S := (ClassId × (Nat → Int32))) (fun u => ∀ j, j < k → uN (u.2 j) % 256 = uN (a0 (fr + j)) % 256) (fun u q => hk_E D ([(h0, .inl (c0, 256, .inl a0)), (q, .inl (u.1, k, .inl u.2))]) ([(c0, .byte), (u.1, .byte)]) A) A) ([.ref h0, .int (nI fr), .int (nI k)] : List Value).toArray s 1 256 A) (F0 m 7 ls []) := by
    intro n
    induction n with
    | zero =>
      intro i f hi hfu hf
      exact absurd hfu (by omega)
    | succ n ih =>
      intro i f hi hfu hf H locs hP hD hS ls hl
      refine lv_iload hx hb dX0_part_7 (lv_at hl 0 rfl) ?_
      refine lv_iload_n hx hb dX0_part_9 rfl (lv_at hl 4 rfl) ?_
      refine lv_icmp_ge (tgt := 29) hx hb dX0_part_10 (by decide) (fun c_1 => ?_) (fun c_1 => ?_)
      · have hi5 : i = k := by have h9 := le_of_nI (by omega) (by omega) c_1; omega
        rw [hi5] at hf
        refine lv_aload_n hx hb dX0_part_29 rfl (lv_at hl 1 rfl) ?_
        have hP9 := hP.sub (ws' := [(h0, .inl (c0, 256, .inl a0)), (q0, .inl (c9, k, .inl f))]) [0, 1] rfl
        have hD9 := hD.sub (ws' := [(h0, .inl (c0, 256, .inl a0)), (q0, .inl (c9, k, .inl f))]) [0, 1] (by decide) rfl
        have hK9 := hK.sub (tys' := [(c0, .byte), (c9, .byte)]) [0, 1] rfl
        refine W.widen (k := 1) (n := 256) (by omega) (by omega) ?_
        exact W.aret (v := .ref q0) hx hb hr (Or.inr ⟨_, rfl⟩) (Or.inr ⟨_, rfl⟩) (fun t ht hW => ⟨⟨(c9, f), _, rfl, hf, hk_at ht hW hP9 hK9 hD9⟩, hS.F ht⟩) hS.2.2 dX0_part_30
      · have hi5 : i < k := lt_of_nle (by omega) (by omega) c_1
        refine lv_aload_n hx hb dX0_part_13 rfl (lv_at hl 1 rfl) ?_
        refine lv_iload hx hb dX0_part_14 (lv_at hl 0 rfl) ?_
        refine lv_aload_n hx hb dX0_part_16 rfl (lv_at hl 2 rfl) ?_
        refine lv_iload_n hx hb dX0_part_17 rfl (lv_at hl 3 rfl) ?_
        refine lv_iload hx hb dX0_part_18 (lv_at hl 0 rfl) ?_
        refine lv_iadd hx hb dX0_part_20 ?_
        refine hk_ti (y := nI (fr + i)) (nI_add _ _) ?_
        refine va_bald hx hb hK hP 0 0 rfl rfl (vp_in_nI (by omega) (by omega)) dX0_part_21 ?_
        refine hk_ti (y := a0 (fr + i)) (by rw [nI_clamp (by omega)]) ?_
        refine va_bast hx hb hK hP hD hS 1 1 rfl rfl (vp_in_nI hi5 (by omega)) dX0_part_22 (fun H locs hP hD hS => ?_)
        have hP : va_P D vwCl [(h0, .inl (c0, 256, .inl a0)), (q0, .inl (c9, k, .inl (upd f (nI i).toNatClampNeg (vp_nar .byte (a0 (fr + i))))))] H := hP
        have hD : va_D A [(h0, .inl (c0, 256, .inl a0)), (q0, .inl (c9, k, .inl (upd f (nI i).toNatClampNeg (vp_nar .byte (a0 (fr + i))))))] := hD
        rw [show upd f (nI i).toNatClampNeg (vp_nar .byte (a0 (fr + i))) = upd f i (vp_nar .byte (a0 (fr + i))) from upd_cl (by omega) rfl] at hP hD
        have hP : va_P D vwCl [(h0, .inl (c0, 256, .inl a0)), (q0, .inl (c9, k, .inl (upd f i (vp_nar .byte (a0 (fr + i))))))] H := hP
        have hD : va_D A [(h0, .inl (c0, 256, .inl a0)), (q0, .inl (c9, k, .inl (upd f i (vp_nar .byte (a0 (fr + i))))))] := hD
        refine lv_iinc (v := nI (i + 1)) (lv' := [(4, .int (nI (i + 1))), (3, .ref q0), (0, .ref h0), (1, .int (nI fr)), (2, .int (nI k))]) hx hb dX0_part_23 hl (k := 0) rfl (nI_o1 _) (by decide) rfl (fun ls hl => ?_)
        refine lv_goto (tgt := 7) hx hb dX0_part_26 (by decide) ?_
        have hl := lv_sub hl (l' := [(4, .int (nI (i + 1))), (3, .ref q0), (0, .ref h0), (1, .int (nI fr)), (2, .int (nI k))]) [0, 1, 2, 3, 4] rfl
        exact ih (i + 1) _ (by omega) (by omega) (part_step hf) H locs hP hD hS ls hl
  have hl := lv_sub hl (l' := [(4, .int 0), (3, .ref q0), (0, .ref h0), (1, .int (nI fr)), (2, .int (nI k))]) [0, 1, 2, 3, 4] rfl
  exact loop1 (k + 1) 0 (fun _ => 0) (Nat.zero_le _) (by omega) (fun j hj => absurd hj (Nat.not_lt_zero j)) _ _ hP hD hS ls hl
set_option maxHeartbeats 4000000 in
set_option maxRecDepth 100000 in
/-- isLet, where nothing may be fed -/
theorem met_l0 (l : Launch) (D : va_G) (sz : Nat) (h0 qm : Nat) (v0 : Value) (lsz lsd : Int32) (cm : ClassId) (cn : Nat) (mo : Nat → Int32) (hc : cn ≤ 256) (hno : lsz = -1 ∨ ∃ k : Nat, k ≤ 4096 ∧ lsz = nI k ∧ 4096 < k + cn) : Met l yX0_isLet (ws_ yX0_isLet cX0_isLet 5 (some .boolean)) ({ frames := 0, cells := 0, slots := 0, locals := 0 }) (va_Pc [.ref h0, .int 0, .ref qm] (hk_B D [(h0, .inr (0, [v0, .int lsz, .int lsd])), (qm, .inl (cm, cn, .inl mo))] [(cm, .byte)] sz)) (va_Qi (S := Unit) (fun z u => z = 1) (fun u => hk_E D ([(h0, .inr (0, [v0, .int lsz, .int lsd])), (qm, .inl (cm, cn, .inl mo))]) ([(cm, .byte)]) (va_A [(h0, .inr (0, [v0, .int lsz, .int lsd])), (qm, .inl (cm, cn, .inl mo))] sz)) (va_A [(h0, .inr (0, [v0, .int lsz, .int lsd])), (qm, .inl (cm, cn, .inl mo))] sz)) 0 0 (va_A [(h0, .inr (0, [v0, .int lsz, .int lsd])), (qm, .inl (cm, cn, .inl mo))] sz) := by
  refine Met.ofW (cc := cX0_isLet) (maxL := 5) (ret := (some .boolean)) (by decide +kernel) rfl ?_
  intro p e s m args below meth c s₁ B hml hv
  obtain ⟨rfl, hsz, hP, hK, hD0, hN⟩ := hv
  have hx := B.exec
  have hb := B.bytes
  have hr := B.returns
  have hts := atoms_spec (ws := (ws_ yX0_isLet cX0_isLet 5 (some .boolean))) B.pre
  have hts : ∀ w ∈ lw_all, w.before _ s = true := fun w h => hts w (List.mem_cons_of_mem _ h)
  have hown : s.vm.findClass RX0 = some m.cls := findClass_of_methodNamed B.named
  have hlocks := B.notSynchronized
  subst hsz
  have hD := hD0.self (sz := s.heap.size)
  generalize hAe : va_A [(h0, .inr (0, [v0, .int lsz, .int lsd])), (qm, .inl (cm, cn, .inl mo))] s.heap.size = A at hD ⊢
  have hA : ∀ q : Nat, s.heap.size ≤ q → A q := fun q h => by rw [← hAe]; exact Or.inr h
  have hS : va_S A s.heap s.heap [] := va_S.rf
  have hP : va_P D vwCl [(h0, .inr (0, [v0, .int lsz, .int lsd])), (qm, .inl (cm, cn, .inl mo))] s.heap := hP
  have hl := lv_entry ([.ref h0, .int 0, .ref qm]) (n := 5) (Nat.le_of_ble_eq_true rfl)
  rw [lg_entry_eq]
  generalize (lg_sl ([.ref h0, .int 0, .ref qm]) ++ List.replicate (5 - (lg_sl ([.ref h0, .int 0, .ref qm])).length) Slot.unset).toArray = ls at hl ⊢
  have hl : lv_has ls 5 [(0, .ref h0), (1, .int 0), (2, .ref qm)] := hl
  rcases hno with hno | ⟨k, hk, hno, hgt⟩
  · subst hno
    refine lv_aload_n hx hb dX0_isLet_0 rfl (lv_at hl 0 rfl) ?_
    refine va_get (D := D) (ci := 0) (v := .int (-1)) (C := RX0) (T := TX0) (N := 3) hx hb hts in_X0 hown hK hP 0 rfl rfl 1 (by decide) (hts _ q369) (fun _ h9 => h9) rfl dX0_isLet_1 ?_
    refine lv_if_lt (tgt := 24) hx hb dX0_isLet_4 (by decide) (fun c_1 => ?_) (fun c_1 => absurd (by decide) c_1)
    refine lv_iconst (v := 0) hx hb dX0_isLet_24 (by decide) ?_
    refine lv_istore_n (lv' := [(3, .int 0), (0, .ref h0), (1, .int 0), (2, .ref qm)]) hx hb dX0_isLet_25 rfl hl (by decide) rfl (fun ls hl => ?_)
    refine lv_iload_n hx hb dX0_isLet_26 rfl (lv_at hl 2 rfl) ?_
    refine lv_iload_n hx hb dX0_isLet_27 rfl (lv_at hl 0 rfl) ?_
    refine lv_icmp_eq (tgt := 33) hx hb dX0_isLet_28 (by decide) (fun c_2 => ?_) (fun c_2 => absurd (rfl) c_2)
    refine lv_iconst (v := 0) hx hb dX0_isLet_33 (by decide) ?_
    refine lv_istore (lv' := [(4, .int 0), (3, .int 0), (0, .ref h0), (1, .int 0), (2, .ref qm)]) hx hb dX0_isLet_34 hl (by decide) rfl (fun ls hl => ?_)
    refine lv_iload_n hx hb dX0_isLet_36 rfl (lv_at hl 1 rfl) ?_
    refine lv_if_eq (tgt := 69) hx hb dX0_isLet_37 (by decide) (fun c_3 => ?_) (fun c_3 => absurd (rfl) c_3)
    refine lv_aload_n hx hb dX0_isLet_69 rfl (lv_at hl 2 rfl) ?_
    refine lv_dup hx hb dX0_isLet_70 rfl ?_
    refine va_get (D := D) (ci := 0) (v := .int (-1)) (C := RX0) (T := TX0) (N := 3) hx hb hts in_X0 hown hK hP 0 rfl rfl 1 (by decide) (hts _ q369) (fun _ h9 => h9) rfl dX0_isLet_71 ?_
    refine lv_iload_n hx hb dX0_isLet_74 rfl (lv_at hl 1 rfl) ?_
    refine lv_if_eq (tgt := 83) hx hb dX0_isLet_75 (by decide) (fun c_4 => ?_) (fun c_4 => absurd (rfl) c_4)
    refine lv_iconst (v := 0) hx hb dX0_isLet_83 (by decide) ?_
    refine lv_iadd hx hb dX0_isLet_84 ?_
    refine hk_ti (y := (-1)) (Int32.add_zero _) ?_
    refine va_put (D := D) (ci := 0) (v := .int (-1)) (ty := .int) (C := RX0) (T := TX0) (N := 3) hx hb hts in_X0 tyX0 tyX0_ok nmX0 hown hK hP hD hS 0 rfl rfl 1 (by decide) (hts _ q369) (fun _ h9 => h9) rfl (by decide +kernel) rfl rfl (Nat.le_of_ble_eq_true rfl) dX0_isLet_85 (fun H locs hP hD hS => ?_)
    have hP : va_P D vwCl [(h0, .inr (0, [v0, .int (-1), .int lsd])), (qm, .inl (cm, cn, .inl mo))] H := hP
    have hD : va_D A [(h0, .inr (0, [v0, .int (-1), .int lsd])), (qm, .inl (cm, cn, .inl mo))] := hD
    refine lv_iconst (v := 1) hx hb dX0_isLet_88 (by decide) ?_
    have hP9 := hP.sub (ws' := [(h0, .inr (0, [v0, .int (-1), .int lsd])), (qm, .inl (cm, cn, .inl mo))]) [0, 1] rfl
    have hD9 := hD.sub (ws' := [(h0, .inr (0, [v0, .int (-1), .int lsd])), (qm, .inl (cm, cn, .inl mo))]) [0, 1] (by decide) rfl
    have hK9 := hK.sub (tys' := [(cm, .byte)]) [0] rfl
    exact W.zret (v := 1) hx hb hr rfl (fun t ht hW => ⟨⟨_, (), rfl, rfl, hk_at ht hW hP9 hK9 hD9⟩, hS.F ht⟩) hS.2.2 dX0_isLet_89
  · subst hno
    refine lv_aload_n hx hb dX0_isLet_0 rfl (lv_at hl 0 rfl) ?_
    refine va_get (D := D) (ci := 0) (v := .int (nI k)) (C := RX0) (T := TX0) (N := 3) hx hb hts in_X0 hown hK hP 0 rfl rfl 1 (by decide) (hts _ q369) (fun _ h9 => h9) rfl dX0_isLet_1 ?_
    refine lv_if_lt (tgt := 24) hx hb dX0_isLet_4 (by decide) (fun c_5 => absurd c_5 (nI_pos (by omega))) (fun c_5 => ?_)
    refine lv_aload_n hx hb dX0_isLet_7 rfl (lv_at hl 0 rfl) ?_
    refine va_get (D := D) (ci := 0) (v := .int (nI k)) (C := RX0) (T := TX0) (N := 3) hx hb hts in_X0 hown hK hP 0 rfl rfl 1 (by decide) (hts _ q369) (fun _ h9 => h9) rfl dX0_isLet_8 ?_
    refine lv_aload_n hx hb dX0_isLet_11 rfl (lv_at hl 2 rfl) ?_
    refine va_alen (v := nI cn) hx hb hK hP 1 0 rfl rfl rfl dX0_isLet_12 ?_
    refine lv_iadd hx hb dX0_isLet_13 ?_
    refine hk_ti (y := nI (k + cn)) (nI_add _ _) ?_
    refine lv_sipush (v := 4096) hx hb dX0_isLet_14 (by decide) ?_
    refine lv_icmp_gt (tgt := 24) hx hb dX0_isLet_17 (by decide) (fun c_6 => ?_) (fun c_6 => absurd (nI_lt (a := 4096) hgt (by omega)) c_6)
    refine lv_iconst (v := 0) hx hb dX0_isLet_24 (by decide) ?_
    refine lv_istore_n (lv' := [(3, .int 0), (0, .ref h0), (1, .int 0), (2, .ref qm)]) hx hb dX0_isLet_25 rfl hl (by decide) rfl (fun ls hl => ?_)
    refine lv_iload_n hx hb dX0_isLet_26 rfl (lv_at hl 2 rfl) ?_
    refine lv_iload_n hx hb dX0_isLet_27 rfl (lv_at hl 0 rfl) ?_
    refine lv_icmp_eq (tgt := 33) hx hb dX0_isLet_28 (by decide) (fun c_7 => ?_) (fun c_7 => absurd (rfl) c_7)
    refine lv_iconst (v := 0) hx hb dX0_isLet_33 (by decide) ?_
    refine lv_istore (lv' := [(4, .int 0), (3, .int 0), (0, .ref h0), (1, .int 0), (2, .ref qm)]) hx hb dX0_isLet_34 hl (by decide) rfl (fun ls hl => ?_)
    refine lv_iload_n hx hb dX0_isLet_36 rfl (lv_at hl 1 rfl) ?_
    refine lv_if_eq (tgt := 69) hx hb dX0_isLet_37 (by decide) (fun c_8 => ?_) (fun c_8 => absurd (rfl) c_8)
    refine lv_aload_n hx hb dX0_isLet_69 rfl (lv_at hl 2 rfl) ?_
    refine lv_dup hx hb dX0_isLet_70 rfl ?_
    refine va_get (D := D) (ci := 0) (v := .int (nI k)) (C := RX0) (T := TX0) (N := 3) hx hb hts in_X0 hown hK hP 0 rfl rfl 1 (by decide) (hts _ q369) (fun _ h9 => h9) rfl dX0_isLet_71 ?_
    refine lv_iload_n hx hb dX0_isLet_74 rfl (lv_at hl 1 rfl) ?_
    refine lv_if_eq (tgt := 83) hx hb dX0_isLet_75 (by decide) (fun c_9 => ?_) (fun c_9 => absurd (rfl) c_9)
    refine lv_iconst (v := 0) hx hb dX0_isLet_83 (by decide) ?_
    refine lv_iadd hx hb dX0_isLet_84 ?_
    refine hk_ti (y := nI k) (Int32.add_zero _) ?_
    refine va_put (D := D) (ci := 0) (v := .int (nI k)) (ty := .int) (C := RX0) (T := TX0) (N := 3) hx hb hts in_X0 tyX0 tyX0_ok nmX0 hown hK hP hD hS 0 rfl rfl 1 (by decide) (hts _ q369) (fun _ h9 => h9) rfl (by decide +kernel) rfl rfl (Nat.le_of_ble_eq_true rfl) dX0_isLet_85 (fun H locs hP hD hS => ?_)
    have hP : va_P D vwCl [(h0, .inr (0, [v0, .int (nI k), .int lsd])), (qm, .inl (cm, cn, .inl mo))] H := hP
    have hD : va_D A [(h0, .inr (0, [v0, .int (nI k), .int lsd])), (qm, .inl (cm, cn, .inl mo))] := hD
    refine lv_iconst (v := 1) hx hb dX0_isLet_88 (by decide) ?_
    have hP9 := hP.sub (ws' := [(h0, .inr (0, [v0, .int (nI k), .int lsd])), (qm, .inl (cm, cn, .inl mo))]) [0, 1] rfl
    have hD9 := hD.sub (ws' := [(h0, .inr (0, [v0, .int (nI k), .int lsd])), (qm, .inl (cm, cn, .inl mo))]) [0, 1] (by decide) rfl
    have hK9 := hK.sub (tys' := [(cm, .byte)]) [0] rfl
    exact W.zret (v := 1) hx hb hr rfl (fun t ht hW => ⟨⟨_, (), rfl, rfl, hk_at ht hW hP9 hK9 hD9⟩, hS.F ht⟩) hS.2.2 dX0_isLet_89
set_option maxHeartbeats 4000000 in
set_option maxRecDepth 100000 in
/-- isLet, where it may be fed -/
theorem met_l1 (l : Launch) (D : va_G) (sz : Nat) (h0 qf qm k : Nat) (lsd : Int32) (cf cm : ClassId) (ff : Nat → Int32) (cn : Nat) (mo : Nat → Int32) (hc : cn ≤ 256) (hk : k + cn ≤ 4096) : Met l yX0_isLet (ws_ yX0_isLet cX0_isLet 5 (some .boolean)) ({ frames := 0, cells := 0, slots := 0, locals := 0 }) (va_Pc [.ref h0, .int 1, .ref qm] (hk_B D [(h0, .inr (0, [.ref qf, .int (nI k), .int lsd])), (qf, .inl (cf, 4096, .inl ff)), (qm, .inl (cm, cn, .inl mo))] [(cf, .byte), (cm, .byte)] sz)) (va_Qi (S := Unit) (fun z u => z = 1) (fun u => hk_E D ([(h0, .inr (0, [.ref qf, .int (nI (k + cn)), .int lsd])), (qf, .inl (cf, 4096, .inl (cpf ff k mo cn))), (qm, .inl (cm, cn, .inl mo))]) ([(cf, .byte), (cm, .byte)]) (va_A [(h0, .inr (0, [.ref qf, .int (nI k), .int lsd])), (qf, .inl (cf, 4096, .inl ff)), (qm, .inl (cm, cn, .inl mo))] sz)) (va_A [(h0, .inr (0, [.ref qf, .int (nI k), .int lsd])), (qf, .inl (cf, 4096, .inl ff)), (qm, .inl (cm, cn, .inl mo))] sz)) 0 0 (va_A [(h0, .inr (0, [.ref qf, .int (nI k), .int lsd])), (qf, .inl (cf, 4096, .inl ff)), (qm, .inl (cm, cn, .inl mo))] sz) := by
  refine Met.ofW (cc := cX0_isLet) (maxL := 5) (ret := (some .boolean)) (by decide +kernel) rfl ?_
  intro p e s m args below meth c s₁ B hml hv
  obtain ⟨rfl, hsz, hP, hK, hD0, hN⟩ := hv
  have hx := B.exec
  have hb := B.bytes
  have hr := B.returns
  have hts := atoms_spec (ws := (ws_ yX0_isLet cX0_isLet 5 (some .boolean))) B.pre
  have hts : ∀ w ∈ lw_all, w.before _ s = true := fun w h => hts w (List.mem_cons_of_mem _ h)
  have hown : s.vm.findClass RX0 = some m.cls := findClass_of_methodNamed B.named
  have hlocks := B.notSynchronized
  subst hsz
  have hD := hD0.self (sz := s.heap.size)
  generalize hAe : va_A [(h0, .inr (0, [.ref qf, .int (nI k), .int lsd])), (qf, .inl (cf, 4096, .inl ff)), (qm, .inl (cm, cn, .inl mo))] s.heap.size = A at hD ⊢
  have hA : ∀ q : Nat, s.heap.size ≤ q → A q := fun q h => by rw [← hAe]; exact Or.inr h
  have hS : va_S A s.heap s.heap [] := va_S.rf
  have hP : va_P D vwCl [(h0, .inr (0, [.ref qf, .int (nI k), .int lsd])), (qf, .inl (cf, 4096, .inl ff)), (qm, .inl (cm, cn, .inl mo))] s.heap := hP
  have hl := lv_entry ([.ref h0, .int 1, .ref qm]) (n := 5) (Nat.le_of_ble_eq_true rfl)
  rw [lg_entry_eq]
  generalize (lg_sl ([.ref h0, .int 1, .ref qm]) ++ List.replicate (5 - (lg_sl ([.ref h0, .int 1, .ref qm])).length) Slot.unset).toArray = ls at hl ⊢
  have hl : lv_has ls 5 [(0, .ref h0), (1, .int 1), (2, .ref qm)] := hl
  refine lv_aload_n hx hb dX0_isLet_0 rfl (lv_at hl 0 rfl) ?_
  refine va_get (D := D) (ci := 0) (v := .int (nI k)) (C := RX0) (T := TX0) (N := 3) hx hb hts in_X0 hown hK hP 0 rfl rfl 1 (by decide) (hts _ q369) (fun _ h9 => h9) rfl dX0_isLet_1 ?_
  refine lv_if_lt (tgt := 24) hx hb dX0_isLet_4 (by decide) (fun c_1 => absurd c_1 (nI_pos (by omega))) (fun c_1 => ?_)
  refine lv_aload_n hx hb dX0_isLet_7 rfl (lv_at hl 0 rfl) ?_
  refine va_get (D := D) (ci := 0) (v := .int (nI k)) (C := RX0) (T := TX0) (N := 3) hx hb hts in_X0 hown hK hP 0 rfl rfl 1 (by decide) (hts _ q369) (fun _ h9 => h9) rfl dX0_isLet_8 ?_
  refine lv_aload_n hx hb dX0_isLet_11 rfl (lv_at hl 2 rfl) ?_
  refine va_alen (v := nI cn) hx hb hK hP 2 1 rfl rfl rfl dX0_isLet_12 ?_
  refine lv_iadd hx hb dX0_isLet_13 ?_
  refine hk_ti (y := nI (k + cn)) (nI_add _ _) ?_
  refine lv_sipush (v := 4096) hx hb dX0_isLet_14 (by decide) ?_
  refine lv_icmp_gt (tgt := 24) hx hb dX0_isLet_17 (by decide) (fun c_2 => absurd c_2 (nI_nlt (a := 4096) hk (by decide))) (fun c_2 => ?_)
  refine lv_iconst (v := 1) hx hb dX0_isLet_20 (by decide) ?_
  refine lv_goto (tgt := 25) hx hb dX0_isLet_21 (by decide) ?_
  refine lv_istore_n (lv' := [(3, .int 1), (0, .ref h0), (1, .int 1), (2, .ref qm)]) hx hb dX0_isLet_25 rfl hl (by decide) rfl (fun ls hl => ?_)
  refine lv_iload_n hx hb dX0_isLet_26 rfl (lv_at hl 2 rfl) ?_
  refine lv_iload_n hx hb dX0_isLet_27 rfl (lv_at hl 0 rfl) ?_
  refine lv_icmp_eq (tgt := 33) hx hb dX0_isLet_28 (by decide) (fun c_3 => ?_) (fun c_3 => absurd (rfl) c_3)
  refine lv_iconst (v := 0) hx hb dX0_isLet_33 (by decide) ?_
  refine lv_istore (lv' := [(4, .int 0), (3, .int 1), (0, .ref h0), (1, .int 1), (2, .ref qm)]) hx hb dX0_isLet_34 hl (by decide) rfl (fun ls hl => ?_)
  have loop1 : ∀ (n : Nat) (i : Nat), i ≤ cn → cn + 1 ≤ i + n → ∀ (H : Heap) (locs : List Loc), va_P D vwCl [(h0, .inr (0, [.ref qf, .int (nI k), .int lsd])), (qf, .inl (cf, 4096, .inl (cpf ff k mo i))), (qm, .inl (cm, cn, .inl mo))] H → va_D A [(h0, .inr (0, [.ref qf, .int (nI k), .int lsd])), (qf, .inl (cf, 4096, .inl (cpf ff k mo i))), (qm, .inl (cm, cn, .inl mo))] → va_S A s.heap H locs → ∀ (ls : Array Slot), lv_has ls 5 [(4, .int (nI i)), (3, .int 1), (0, .ref h0), (1, .int 1), (2, .ref qm)] → W p l e (headSpec (ws_ yX0_isLet cX0_isLet 5 (some .boolean)) ({ frames := 0, cells := 0, slots := 0, locals := 0 })).room s m ([.ref h0, .int 1, .ref qm] : List Value).toArray below meth c H locs 0 0 (MQ below (va_Qi (S := Unit) (fun z u => z = 1) (fun u => hk_E D ([(h0, .inr (0, [.ref qf, .int (nI (k + cn)), .int lsd])), (qf, .inl (cf, 4096, .inl (cpf ff k mo cn))), (qm, .inl (cm, cn, .inl mo))]) ([(cf, .byte), (cm, .byte)]) A) A) ([.ref h0, .int 1, .ref qm] : List Value).toArray s 0 0 A) (F0 m 36 ls []) := by
    intro n
    induction n with
    | zero =>
      intro i hi hfu
      exact absurd hfu (by omega)
    | succ n ih =>
      intro i hi hfu H locs hP hD hS ls hl
      refine lv_iload_n hx hb dX0_isLet_36 rfl (lv_at hl 1 rfl) ?_
      refine lv_if_eq (tgt := 69) hx hb dX0_isLet_37 (by decide) (fun c_4 => absurd c_4 (by decide)) (fun c_4 => ?_)
      refine lv_iload hx hb dX0_isLet_40 (lv_at hl 0 rfl) ?_
      refine lv_aload_n hx hb dX0_isLet_42 rfl (lv_at hl 4 rfl) ?_
      refine va_alen (v := nI cn) hx hb hK hP 2 1 rfl rfl rfl dX0_isLet_43 ?_
      refine lv_icmp_ge (tgt := 69) hx hb dX0_isLet_44 (by decide) (fun c_5 => ?_) (fun c_5 => ?_)
      · have hi5 : i = cn := by have h9 := le_of_nI (by omega) (by omega) c_5; omega
        rw [hi5] at hP hD
        refine lv_aload_n hx hb dX0_isLet_69 rfl (lv_at hl 2 rfl) ?_
        refine lv_dup hx hb dX0_isLet_70 rfl ?_
        refine va_get (D := D) (ci := 0) (v := .int (nI k)) (C := RX0) (T := TX0) (N := 3) hx hb hts in_X0 hown hK hP 0 rfl rfl 1 (by decide) (hts _ q369) (fun _ h9 => h9) rfl dX0_isLet_71 ?_
        refine lv_iload_n hx hb dX0_isLet_74 rfl (lv_at hl 1 rfl) ?_
        refine lv_if_eq (tgt := 83) hx hb dX0_isLet_75 (by decide) (fun c_6 => absurd c_6 (by decide)) (fun c_6 => ?_)
        refine lv_aload_n hx hb dX0_isLet_78 rfl (lv_at hl 4 rfl) ?_
        refine va_alen (v := nI cn) hx hb hK hP 2 1 rfl rfl rfl dX0_isLet_79 ?_
        refine lv_goto (tgt := 84) hx hb dX0_isLet_80 (by decide) ?_
        refine lv_iadd hx hb dX0_isLet_84 ?_
        refine hk_ti (y := nI (k + cn)) (nI_add _ _) ?_
        refine va_put (D := D) (ci := 0) (v := .int (nI (k + cn))) (ty := .int) (C := RX0) (T := TX0) (N := 3) hx hb hts in_X0 tyX0 tyX0_ok nmX0 hown hK hP hD hS 0 rfl rfl 1 (by decide) (hts _ q369) (fun _ h9 => h9) rfl (by decide +kernel) rfl rfl (Nat.le_of_ble_eq_true rfl) dX0_isLet_85 (fun H locs hP hD hS => ?_)
        have hP : va_P D vwCl [(h0, .inr (0, [.ref qf, .int (nI (k + cn)), .int lsd])), (qf, .inl (cf, 4096, .inl (cpf ff k mo cn))), (qm, .inl (cm, cn, .inl mo))] H := hP
        have hD : va_D A [(h0, .inr (0, [.ref qf, .int (nI (k + cn)), .int lsd])), (qf, .inl (cf, 4096, .inl (cpf ff k mo cn))), (qm, .inl (cm, cn, .inl mo))] := hD
        refine lv_iconst (v := 1) hx hb dX0_isLet_88 (by decide) ?_
        have hP9 := hP.sub (ws' := [(h0, .inr (0, [.ref qf, .int (nI (k + cn)), .int lsd])), (qf, .inl (cf, 4096, .inl (cpf ff k mo cn))), (qm, .inl (cm, cn, .inl mo))]) [0, 1, 2] rfl
        have hD9 := hD.sub (ws' := [(h0, .inr (0, [.ref qf, .int (nI (k + cn)), .int lsd])), (qf, .inl (cf, 4096, .inl (cpf ff k mo cn))), (qm, .inl (cm, cn, .inl mo))]) [0, 1, 2] (by decide) rfl
        have hK9 := hK.sub (tys' := [(cf, .byte), (cm, .byte)]) [0, 1] rfl
        exact W.zret (v := 1) hx hb hr rfl (fun t ht hW => ⟨⟨_, (), rfl, rfl, hk_at ht hW hP9 hK9 hD9⟩, hS.F ht⟩) hS.2.2 dX0_isLet_89
      · have hi5 : i < cn := lt_of_nle (by omega) (by omega) c_5
        refine lv_aload_n hx hb dX0_isLet_47 rfl (lv_at hl 2 rfl) ?_
        refine va_get (D := D) (ci := 0) (v := .ref qf) (C := RX0) (T := TX0) (N := 3) hx hb hts in_X0 hown hK hP 0 rfl rfl 0 (by decide) (hts _ q368) (fun _ h9 => h9) rfl dX0_isLet_48 ?_
        refine lv_aload_n hx hb dX0_isLet_51 rfl (lv_at hl 2 rfl) ?_
        refine va_get (D := D) (ci := 0) (v := .int (nI k)) (C := RX0) (T := TX0) (N := 3) hx hb hts in_X0 hown hK hP 0 rfl rfl 1 (by decide) (hts _ q369) (fun _ h9 => h9) rfl dX0_isLet_52 ?_
        refine lv_iload hx hb dX0_isLet_55 (lv_at hl 0 rfl) ?_
        refine lv_iadd hx hb dX0_isLet_57 ?_
        refine hk_ti (y := nI (k + i)) (nI_add _ _) ?_
        refine lv_aload_n hx hb dX0_isLet_58 rfl (lv_at hl 4 rfl) ?_
        refine lv_iload hx hb dX0_isLet_59 (lv_at hl 0 rfl) ?_
        refine va_bald hx hb hK hP 2 1 rfl rfl (vp_in_nI hi5 (by omega)) dX0_isLet_61 ?_
        refine hk_ti (y := mo i) (by rw [nI_clamp (by omega)]) ?_
        refine va_bast hx hb hK hP hD hS 1 0 rfl rfl (vp_in_nI (by omega) (by omega)) dX0_isLet_62 (fun H locs hP hD hS => ?_)
        have hP : va_P D vwCl [(h0, .inr (0, [.ref qf, .int (nI k), .int lsd])), (qf, .inl (cf, 4096, .inl (upd (cpf ff k mo i) (nI (k + i)).toNatClampNeg (vp_nar .byte (mo i))))), (qm, .inl (cm, cn, .inl mo))] H := hP
        have hD : va_D A [(h0, .inr (0, [.ref qf, .int (nI k), .int lsd])), (qf, .inl (cf, 4096, .inl (upd (cpf ff k mo i) (nI (k + i)).toNatClampNeg (vp_nar .byte (mo i))))), (qm, .inl (cm, cn, .inl mo))] := hD
        rw [show upd (cpf ff k mo i) (nI (k + i)).toNatClampNeg (vp_nar .byte (mo i)) = cpf ff k mo (i + 1) from upd_cl (by omega) rfl] at hP hD
        have hP : va_P D vwCl [(h0, .inr (0, [.ref qf, .int (nI k), .int lsd])), (qf, .inl (cf, 4096, .inl (cpf ff k mo (i + 1)))), (qm, .inl (cm, cn, .inl mo))] H := hP
        have hD : va_D A [(h0, .inr (0, [.ref qf, .int (nI k), .int lsd])), (qf, .inl (cf, 4096, .inl (cpf ff k mo (i + 1)))), (qm, .inl (cm, cn, .inl mo))] := hD
        refine lv_iinc (v := nI (i + 1)) (lv' := [(4, .int (nI (i + 1))), (3, .int 1), (0, .ref h0), (1, .int 1), (2, .ref qm)]) hx hb dX0_isLet_63 hl (k := 0) rfl (nI_o1 _) (by decide) rfl (fun ls hl => ?_)
        refine lv_goto (tgt := 36) hx hb dX0_isLet_66 (by decide) ?_
        have hl := lv_sub hl (l' := [(4, .int (nI (i + 1))), (3, .int 1), (0, .ref h0), (1, .int 1), (2, .ref qm)]) [0, 1, 2, 3, 4] rfl
        exact ih (i + 1) (by omega) (by omega) H locs hP hD hS ls hl
  have hl := lv_sub hl (l' := [(4, .int 0), (3, .int 1), (0, .ref h0), (1, .int 1), (2, .ref qm)]) [0, 1, 2, 3, 4] rfl
  exact loop1 (cn + 1) 0 (Nat.zero_le _) (by omega) _ _ hP hD hS ls hl
set_option maxHeartbeats 4000000 in
set_option maxRecDepth 100000 in
/-- closes: what is told is due -/
theorem met_cc (l : Launch) (D : va_G) (sz : Nat) (h0 qf qd qh : Nat) (cf : ClassId) (ff : Nat → Int32) (v0 : Value) (v1 : Int32) (rv : Value) (e0 : va_E) (fd lsz lsd : Int32) (hR : runRel rv qh e0 fd lsz lsd ff) : Met l yX0_closes (ws_ yX0_closes cX0_closes 3 (some .boolean)) ({ frames := 7, cells := 1, slots := 1, locals := 135 }) (va_Pc [.ref h0, .ref qd] (hk_B D [(h0, .inr (0, [.ref qf, .int lsz, .int lsd])), (qf, .inl (cf, 4096, .inl ff)), (qd, .inr (1, [v0, .int v1, rv, .int fd])), (qh, e0)] [(cf, .byte)] sz)) (va_Qi (S := va_E) (fun z u => z = 1) (fun u => hk_E D ([(h0, .inr (0, [.ref qf, .int (-1), .int lsd])), (qf, .inl (cf, 4096, .inl ff)), (qd, .inr (1, [v0, .int v1, .null, .int fd])), (qh, u)]) ([(cf, .byte)]) (va_A [(h0, .inr (0, [.ref qf, .int lsz, .int lsd])), (qf, .inl (cf, 4096, .inl ff)), (qd, .inr (1, [v0, .int v1, rv, .int fd])), (qh, e0)] sz)) (va_A [(h0, .inr (0, [.ref qf, .int lsz, .int lsd])), (qf, .inl (cf, 4096, .inl ff)), (qd, .inr (1, [v0, .int v1, rv, .int fd])), (qh, e0)] sz)) 1 1 (va_A [(h0, .inr (0, [.ref qf, .int lsz, .int lsd])), (qf, .inl (cf, 4096, .inl ff)), (qd, .inr (1, [v0, .int v1, rv, .int fd])), (qh, e0)] sz) := by
  refine Met.ofW (cc := cX0_closes) (maxL := 3) (ret := (some .boolean)) (by decide +kernel) rfl ?_
  intro p e s m args below meth c s₁ B hml hv
  obtain ⟨rfl, hsz, hP, hK, hD0, hN⟩ := hv
  have hx := B.exec
  have hb := B.bytes
  have hr := B.returns
  have hts := atoms_spec (ws := (ws_ yX0_closes cX0_closes 3 (some .boolean))) B.pre
  have hts : ∀ w ∈ lw_all, w.before _ s = true := fun w h => hts w (List.mem_cons_of_mem _ h)
  have hown : s.vm.findClass RX0 = some m.cls := findClass_of_methodNamed B.named
  have hlocks := B.notSynchronized
  subst hsz
  have hD := hD0.self (sz := s.heap.size)
  generalize hAe : va_A [(h0, .inr (0, [.ref qf, .int lsz, .int lsd])), (qf, .inl (cf, 4096, .inl ff)), (qd, .inr (1, [v0, .int v1, rv, .int fd])), (qh, e0)] s.heap.size = A at hD ⊢
  have hA : ∀ q : Nat, s.heap.size ≤ q → A q := fun q h => by rw [← hAe]; exact Or.inr h
  have hS : va_S A s.heap s.heap [] := va_S.rf
  have hP : va_P D vwCl [(h0, .inr (0, [.ref qf, .int lsz, .int lsd])), (qf, .inl (cf, 4096, .inl ff)), (qd, .inr (1, [v0, .int v1, rv, .int fd])), (qh, e0)] s.heap := hP
  have hl := lv_entry ([.ref h0, .ref qd]) (n := 3) (Nat.le_of_ble_eq_true rfl)
  rw [lg_entry_eq]
  generalize (lg_sl ([.ref h0, .ref qd]) ++ List.replicate (3 - (lg_sl ([.ref h0, .ref qd])).length) Slot.unset).toArray = ls at hl ⊢
  have hl : lv_has ls 3 [(0, .ref h0), (1, .ref qd)] := hl
  rcases hR with ⟨hR1, hR2⟩ | ⟨k, hk, hR2, hR1⟩
  · subst hR1 hR2
    refine lv_aload_n hx hb dX0_closes_0 rfl (lv_at hl 0 rfl) ?_
    refine va_get (D := D) (ci := 0) (v := .int (-1)) (C := RX0) (T := TX0) (N := 3) hx hb hts in_X0 hown hK hP 0 rfl rfl 1 (by decide) (hts _ q369) (fun _ h9 => h9) rfl dX0_closes_1 ?_
    refine lv_if_ge (tgt := 11) hx hb dX0_closes_4 (by decide) (fun c_1 => absurd c_1 (by decide)) (fun c_1 => ?_)
    refine lv_iconst (v := 0) hx hb dX0_closes_7 (by decide) ?_
    refine lv_goto (tgt := 26) hx hb dX0_closes_8 (by decide) ?_
    refine lv_istore_n (lv' := [(2, .int 0), (0, .ref h0), (1, .ref qd)]) hx hb dX0_closes_26 rfl hl (by decide) rfl (fun ls hl => ?_)
    refine lv_aload_n hx hb dX0_closes_27 rfl (lv_at hl 1 rfl) ?_
    refine lv_iconst (v := -1) hx hb dX0_closes_28 (by decide) ?_
    refine va_put (D := D) (ci := 0) (v := .int (-1)) (ty := .int) (C := RX0) (T := TX0) (N := 3) hx hb hts in_X0 tyX0 tyX0_ok nmX0 hown hK hP hD hS 0 rfl rfl 1 (by decide) (hts _ q369) (fun _ h9 => h9) rfl (by decide +kernel) rfl rfl (Nat.le_of_ble_eq_true rfl) dX0_closes_29 (fun H locs hP hD hS => ?_)
    have hP : va_P D vwCl [(h0, .inr (0, [.ref qf, .int (-1), .int lsd])), (qf, .inl (cf, 4096, .inl ff)), (qd, .inr (1, [v0, .int v1, .null, .int fd])), (qh, e0)] H := hP
    have hD : va_D A [(h0, .inr (0, [.ref qf, .int (-1), .int lsd])), (qf, .inl (cf, 4096, .inl ff)), (qd, .inr (1, [v0, .int v1, .null, .int fd])), (qh, e0)] := hD
    refine lv_aload_n hx hb dX0_closes_32 rfl (lv_at hl 2 rfl) ?_
    refine hk_ci (wr := [(h0, .inr (0, [.ref qf, .int (-1), .int lsd])), (qf, .inl (cf, 4096, .inl ff))]) (va_runV (As := []) (rest := []) ⟨hx, hb, hml, hown, hts⟩ (met_cl l D H.size qd qh v0 v1 .null e0 fd none rfl) (cwV 0 hts (lw_V q266 q267 q268 q7 q269) rfl rfl rfl (by decide +kernel) ⟨Nat.le_of_ble_eq_true rfl, Nat.le_of_ble_eq_true rfl⟩) (hk_BV (hP.sub (ws' := [(qd, .inr (1, [v0, .int v1, .null, .int fd])), (qh, e0)]) [2, 3] rfl) (hK.sub (tys' := []) [] rfl) hN (hD.sub (ws' := [(qd, .inr (1, [v0, .int v1, .null, .int fd])), (qh, e0)]) [2, 3] (by decide) rfl) (va_recv hK hP (ci := 1) (q0 := 2) rfl rfl)) rfl rfl hl.1 rfl (lv_room (Nat.le_of_ble_eq_true rfl)) dX0_closes_33 ⟨Nat.le_of_ble_eq_true rfl, Nat.le_of_ble_eq_true rfl⟩) hP hD hK hS hA [2, 3] [0, 1] rfl rfl (by decide) (by decide) (fun r_2 u H locs h_3 hP hD hK hS => ?_)
    have hP : va_P D vwCl [(h0, .inr (0, [.ref qf, .int (-1), .int lsd])), (qf, .inl (cf, 4096, .inl ff)), (qd, .inr (1, [v0, .int v1, .null, .int fd])), (qh, u)] H := hP
    have hD : va_D A [(h0, .inr (0, [.ref qf, .int (-1), .int lsd])), (qf, .inl (cf, 4096, .inl ff)), (qd, .inr (1, [v0, .int v1, .null, .int fd])), (qh, u)] := hD
    have hK : va_K D vwCl [(cf, .byte)] s := hK
    obtain rfl : r_2 = 0 := h_3
    refine lv_iload_n hx hb dX0_closes_36 rfl (lv_at hl 0 rfl) ?_
    refine lv_icmp_ne (tgt := 44) hx hb dX0_closes_37 (by decide) (fun c_4 => absurd (rfl) c_4) (fun c_4 => ?_)
    refine lv_iconst (v := 1) hx hb dX0_closes_40 (by decide) ?_
    refine lv_goto (tgt := 45) hx hb dX0_closes_41 (by decide) ?_
    have hP9 := hP.sub (ws' := [(h0, .inr (0, [.ref qf, .int (-1), .int lsd])), (qf, .inl (cf, 4096, .inl ff)), (qd, .inr (1, [v0, .int v1, .null, .int fd])), (qh, u)]) [0, 1, 2, 3] rfl
    have hD9 := hD.sub (ws' := [(h0, .inr (0, [.ref qf, .int (-1), .int lsd])), (qf, .inl (cf, 4096, .inl ff)), (qd, .inr (1, [v0, .int v1, .null, .int fd])), (qh, u)]) [0, 1, 2, 3] (by decide) rfl
    have hK9 := hK.sub (tys' := [(cf, .byte)]) [0] rfl
    refine W.widen (k := 1) (n := 1) (by omega) (by omega) ?_
    exact W.zret (v := 1) hx hb hr rfl (fun t ht hW => ⟨⟨_, u, rfl, rfl, hk_at ht hW hP9 hK9 hD9⟩, hS.F ht⟩) hS.2.2 dX0_closes_45
  · subst hR2
    refine lv_aload_n hx hb dX0_closes_0 rfl (lv_at hl 0 rfl) ?_
    refine va_get (D := D) (ci := 0) (v := .int (nI k)) (C := RX0) (T := TX0) (N := 3) hx hb hts in_X0 hown hK hP 0 rfl rfl 1 (by decide) (hts _ q369) (fun _ h9 => h9) rfl dX0_closes_1 ?_
    refine lv_if_ge (tgt := 11) hx hb dX0_closes_4 (by decide) (fun c_5 => ?_) (fun c_5 => absurd (nI_pos' (by omega)) c_5)
    refine lv_aload_n hx hb dX0_closes_11 rfl (lv_at hl 0 rfl) ?_
    refine va_get (D := D) (ci := 0) (v := .ref qf) (C := RX0) (T := TX0) (N := 3) hx hb hts in_X0 hown hK hP 0 rfl rfl 0 (by decide) (hts _ q368) (fun _ h9 => h9) rfl dX0_closes_12 ?_
    refine lv_aload_n hx hb dX0_closes_15 rfl (lv_at hl 0 rfl) ?_
    refine va_get (D := D) (ci := 0) (v := .int (nI k)) (C := RX0) (T := TX0) (N := 3) hx hb hts in_X0 hown hK hP 0 rfl rfl 1 (by decide) (hts _ q369) (fun _ h9 => h9) rfl dX0_closes_16 ?_
    refine lv_aload_n hx hb dX0_closes_19 rfl (lv_at hl 0 rfl) ?_
    refine va_get (D := D) (ci := 0) (v := .int lsd) (C := RX0) (T := TX0) (N := 3) hx hb hts in_X0 hown hK hP 0 rfl rfl 2 (by decide) (hts _ q370) (fun _ h9 => h9) rfl dX0_closes_20 ?_
    refine vp_callSi (va_Run.run (va_runS (As := [.ref qf, .int (nI k), .int lsd]) (rest := []) ⟨hx, hb, hml, hown, hts⟩ (met_du l D qf 4096 cf ff k lsd (by decide) hk) (va_cwS 3 hts (lw_S q385 q386 q6 q387) rfl rfl rfl (by decide +kernel) ⟨Nat.le_of_ble_eq_true rfl, Nat.le_of_ble_eq_true rfl⟩) (hk_CS (hP.sub (ws' := [(qf, .inl (cf, 4096, .inl ff))]) [1] rfl) (hK.sub (tys' := [(cf, .byte)]) [0] rfl) hN) rfl rfl hl.1 rfl (lv_room (Nat.le_of_ble_eq_true rfl)) dX0_closes_23 ⟨Nat.le_of_ble_eq_true rfl, Nat.le_of_ble_eq_true rfl⟩)) (fun r_6 hr_6 => ?_)
    obtain rfl : r_6 = m_hash (fun j => uN (ff j)) k lsd := hr_6
    refine lv_istore_n (lv' := [(2, .int (m_hash (fun j => uN (ff j)) k lsd)), (0, .ref h0), (1, .ref qd)]) hx hb dX0_closes_26 rfl hl (by decide) rfl (fun ls hl => ?_)
    refine lv_aload_n hx hb dX0_closes_27 rfl (lv_at hl 1 rfl) ?_
    refine lv_iconst (v := -1) hx hb dX0_closes_28 (by decide) ?_
    refine va_put (D := D) (ci := 0) (v := .int (-1)) (ty := .int) (C := RX0) (T := TX0) (N := 3) hx hb hts in_X0 tyX0 tyX0_ok nmX0 hown hK hP hD hS 0 rfl rfl 1 (by decide) (hts _ q369) (fun _ h9 => h9) rfl (by decide +kernel) rfl rfl (Nat.le_of_ble_eq_true rfl) dX0_closes_29 (fun H locs hP hD hS => ?_)
    have hP : va_P D vwCl [(h0, .inr (0, [.ref qf, .int (-1), .int lsd])), (qf, .inl (cf, 4096, .inl ff)), (qd, .inr (1, [v0, .int v1, rv, .int fd])), (qh, e0)] H := hP
    have hD : va_D A [(h0, .inr (0, [.ref qf, .int (-1), .int lsd])), (qf, .inl (cf, 4096, .inl ff)), (qd, .inr (1, [v0, .int v1, rv, .int fd])), (qh, e0)] := hD
    refine lv_aload_n hx hb dX0_closes_32 rfl (lv_at hl 2 rfl) ?_
    refine hk_ci (wr := [(h0, .inr (0, [.ref qf, .int (-1), .int lsd])), (qf, .inl (cf, 4096, .inl ff))]) (va_runV (As := []) (rest := []) ⟨hx, hb, hml, hown, hts⟩ (met_cl l D H.size qd qh v0 v1 rv e0 fd (some (lsd, (fun j => uN (ff j)), k)) hR1) (cwV 0 hts (lw_V q266 q267 q268 q7 q269) rfl rfl rfl (by decide +kernel) ⟨Nat.le_of_ble_eq_true rfl, Nat.le_of_ble_eq_true rfl⟩) (hk_BV (hP.sub (ws' := [(qd, .inr (1, [v0, .int v1, rv, .int fd])), (qh, e0)]) [2, 3] rfl) (hK.sub (tys' := []) [] rfl) hN (hD.sub (ws' := [(qd, .inr (1, [v0, .int v1, rv, .int fd])), (qh, e0)]) [2, 3] (by decide) rfl) (va_recv hK hP (ci := 1) (q0 := 2) rfl rfl)) rfl rfl hl.1 rfl (lv_room (Nat.le_of_ble_eq_true rfl)) dX0_closes_33 ⟨Nat.le_of_ble_eq_true rfl, Nat.le_of_ble_eq_true rfl⟩) hP hD hK hS hA [2, 3] [0, 1] rfl rfl (by decide) (by decide) (fun r_7 u H locs h_8 hP hD hK hS => ?_)
    have hP : va_P D vwCl [(h0, .inr (0, [.ref qf, .int (-1), .int lsd])), (qf, .inl (cf, 4096, .inl ff)), (qd, .inr (1, [v0, .int v1, .null, .int fd])), (qh, u)] H := hP
    have hD : va_D A [(h0, .inr (0, [.ref qf, .int (-1), .int lsd])), (qf, .inl (cf, 4096, .inl ff)), (qd, .inr (1, [v0, .int v1, .null, .int fd])), (qh, u)] := hD
    have hK : va_K D vwCl [(cf, .byte)] s := hK
    obtain rfl : r_7 = m_hash (fun j => uN (ff j)) k lsd := h_8
    refine lv_iload_n hx hb dX0_closes_36 rfl (lv_at hl 0 rfl) ?_
    refine lv_icmp_ne (tgt := 44) hx hb dX0_closes_37 (by decide) (fun c_9 => absurd (rfl) c_9) (fun c_9 => ?_)
    refine lv_iconst (v := 1) hx hb dX0_closes_40 (by decide) ?_
    refine lv_goto (tgt := 45) hx hb dX0_closes_41 (by decide) ?_
    have hP9 := hP.sub (ws' := [(h0, .inr (0, [.ref qf, .int (-1), .int lsd])), (qf, .inl (cf, 4096, .inl ff)), (qd, .inr (1, [v0, .int v1, .null, .int fd])), (qh, u)]) [0, 1, 2, 3] rfl
    have hD9 := hD.sub (ws' := [(h0, .inr (0, [.ref qf, .int (-1), .int lsd])), (qf, .inl (cf, 4096, .inl ff)), (qd, .inr (1, [v0, .int v1, .null, .int fd])), (qh, u)]) [0, 1, 2, 3] (by decide) rfl
    have hK9 := hK.sub (tys' := [(cf, .byte)]) [0] rfl
    refine W.widen (k := 1) (n := 1) (by omega) (by omega) ?_
    exact W.zret (v := 1) hx hb hr rfl (fun t ht hW => ⟨⟨_, u, rfl, rfl, hk_at ht hW hP9 hK9 hD9⟩, hS.F ht⟩) hS.2.2 dX0_closes_45
end
section
set_option maxRecDepth 20000
/-! PLAIN LAW of the law's entry -/
theorem mdN_id {v n : Nat} (h : v < n) (hn : n < 2 ^ 31) : mdN (nI v) n = v := by
  unfold mdN
  rw [uN_small (by omega), Nat.mod_eq_of_lt (a := v) (b := 2 ^ 31) (by omega), Nat.mod_eq_of_lt h]
theorem mdN_1 (v : Int32) : mdN v 1 = 0 := Nat.mod_one _
theorem m_hash_n0 (d : Nat → Nat) : m_hash d 0 0 = 0 := by
  show m_f (0 ^^^ m_k (nI 0)) (nI 0) = 0
  decide +kernel
theorem m_hash_n1 (d : Nat → Nat) : m_hash d 0 1 = 1364076727 := by
  show m_f (1 ^^^ m_k (nI 0)) (nI 0) = 1364076727
  decide +kernel
theorem dkr_congr {rv : Value} {qh : Nat} {e : va_E} {fd seed : Int32} {d d' : Nat → Nat} {k : Nat} (h : dkr rv qh e fd (some (seed, d, k))) (hd : ∀ j, j < k → d j % 256 = d' j % 256) : dkr rv qh e fd (some (seed, d', k)) := by
  obtain ⟨a, b, c, h1, buf, sh, e1, hH⟩ := h
  exact ⟨a, b, c, h1, buf, sh, e1, HS_congr hH hd⟩
/-- the run that a picture shows -/
theorem runRel_r {rv : Value} {qh : Nat} {e : va_E} {fd lsz lsd : Int32} {ff : Nat → Int32} (h : runRel rv qh e fd lsz lsd ff) : ∃ r : hk_R, dkr rv qh e fd r ∧ ((r = none ∧ lsz = -1) ∨ ∃ k : Nat, k ≤ 4096 ∧ lsz = nI k ∧ r = some (lsd, (fun j => uN (ff j)), k)) := by
  rcases h with ⟨a, b⟩ | ⟨k, hk, a, b⟩
  · exact ⟨none, a, Or.inl ⟨rfl, b⟩⟩
  · exact ⟨_, b, Or.inr ⟨k, hk, a, rfl⟩⟩
/-- what feeding tells, beside the law's picture -/
def fedL (rv : Value) (qh : Nat) (e : va_E) (fd lsz lsd : Int32) (ff : Nat → Int32) (c : Nat) (g : Nat → Nat) (z : Int32) (u : Int32 × va_E) : Prop :=
  (z = 0 ∧ u = (fd, e) ∧ (lsz = -1 ∨ ∃ k : Nat, k ≤ 4096 ∧ lsz = nI k ∧ 4096 < k + c)) ∨ ∃ k : Nat, lsz = nI k ∧ k + c ≤ 4096 ∧ z = 1 ∧ dkr rv qh u.2 u.1 (some (lsd, app (fun j => uN (ff j)) k g, k + c))
theorem fedL_of {rv : Value} {qh : Nat} {e : va_E} {fd lsz lsd : Int32} {ff : Nat → Int32} {c : Nat} {g : Nat → Nat} {z : Int32} {u : Int32 × va_E} {r : hk_R} (hr : (r = none ∧ lsz = -1) ∨ ∃ k : Nat, k ≤ 4096 ∧ lsz = nI k ∧ r = some (lsd, (fun j => uN (ff j)), k)) (h : fedP rv qh e fd r c g z u) : fedL rv qh e fd lsz lsd ff c g z u := by
  rcases hr with ⟨rfl, b⟩ | ⟨k, hk, b, rfl⟩
  · exact Or.inl ⟨h.1, h.2, Or.inl b⟩
  · rcases h with ⟨h1, h2, h3⟩ | ⟨h1, h2, h3⟩
    · exact Or.inr ⟨k, b, h1, h2, h3⟩
    · exact Or.inl ⟨h2, h3, Or.inr ⟨k, hk, b, h1⟩⟩
/-- behind a piece that is let -/
theorem run_fed {rv : Value} {qh : Nat} {e : va_E} {fd lsd : Int32} {ff mo : Nat → Int32} {k c : Nat} {g : Nat → Nat} (h : dkr rv qh e fd (some (lsd, app (fun j => uN (ff j)) k g, k + c))) (hm : ∀ j, j < c → uN (mo j) % 256 = g j % 256) : runRel rv qh e fd (nI (k + c)) lsd (cpf ff k mo c) := by
  refine Or.inr ⟨k + c, h.2.2.1, rfl, dkr_congr h (fun j hj => ?_)⟩
  rcases Nat.lt_or_ge j k with q | q
  · rw [app_lo q, cpf_lo q]
  · obtain ⟨i, rfl⟩ := Nat.exists_eq_add_of_le q
    rw [app_hi, cpf_hi c (by omega), uN_nar, hm i (by omega)]
theorem by_1 (x : Int32) {f : Nat → Int32} (h : ∀ j, j < 1 → uN (f j) % 256 = gL (uL x.toInt64) j % 256) : ∀ j, j < 1 → uN (f j) % 256 = (fun _ => uN x) j % 256 := by
  intro j hj
  rw [h j hj]
  have e : j = 0 := by omega
  subst e
  have := uL_i2l x
  show uL x.toInt64 / 256 ^ 0 % 256 = uN x % 256
  omega
theorem by_4 (x : Int32) {f : Nat → Int32} (h : ∀ j, j < 4 → uN (f j) % 256 = gL (uL x.toInt64) j % 256) : ∀ j, j < 4 → uN (f j) % 256 = gL (uN x) j % 256 := by
  intro j hj
  rw [h j hj, ← uL_i2l x]
  exact (gL_mod (uL x.toInt64) (m := 4) hj).symm
/-- the law's own filling of its text, i bytes of the four words g -/
def lwf (f : Nat → Int32) (n : Nat) (g : Nat → Int32) : Nat → (Nat → Int32)
  | 0 => f
  | i + 1 => upd (lwf f n g i) (n + i) (bz (g (i / 4) >>> (nI (24 - i % 4 * 8) &&& 31)))
theorem lwf_w (f : Nat → Int32) (n : Nat) (g : Nat → Int32) (w : Nat) : lwf f n g (4 * w + 4) = pw (lwf f n g (4 * w)) (n + 4 * w) (g w) := by
  show upd (upd (upd (upd (lwf f n g (4 * w)) (n + 4 * w) (bz (g (4 * w / 4) >>> (nI (24 - 4 * w % 4 * 8) &&& 31)))) (n + (4 * w + 1)) (bz (g ((4 * w + 1) / 4) >>> (nI (24 - (4 * w + 1) % 4 * 8) &&& 31)))) (n + (4 * w + 2)) (bz (g ((4 * w + 2) / 4) >>> (nI (24 - (4 * w + 2) % 4 * 8) &&& 31)))) (n + (4 * w + 3)) (bz (g ((4 * w + 3) / 4) >>> (nI (24 - (4 * w + 3) % 4 * 8) &&& 31))) = _
  rw [show 4 * w / 4 = w by omega, show (4 * w + 1) / 4 = w by omega, show (4 * w + 2) / 4 = w by omega, show (4 * w + 3) / 4 = w by omega, show 24 - 4 * w % 4 * 8 = 24 by omega, show 24 - (4 * w + 1) % 4 * 8 = 16 by omega, show 24 - (4 * w + 2) % 4 * 8 = 8 by omega, show 24 - (4 * w + 3) % 4 * 8 = 0 by omega]
  rw [show g w >>> (nI 0 &&& 31) = g w from sb_shr0 (g w)]
  rfl
theorem lwf_16 (f : Nat → Int32) (n : Nat) (g : Nat → Int32) : lwf f n g 16 = putf f n (g 0) (g 1) (g 2) (g 3) := by
  rw [show 16 = 4 * 3 + 4 from rfl, lwf_w, show 4 * 3 = 4 * 2 + 4 from rfl, lwf_w, show 4 * 2 = 4 * 1 + 4 from rfl, lwf_w, show 4 * 1 = 4 * 0 + 4 from rfl, lwf_w]
  rfl
/-- the four words of an act -/
def four (a b c d : Int32) : Nat → Int32 := upd (upd (upd (upd (fun _ => 0) 0 a) 1 b) 2 c) 3 d
theorem lwf_four (f : Nat → Int32) (n : Nat) (a b c d : Int32) : lwf f n (four a b c d) 16 = putf f n a b c d := by
  rw [lwf_16]
  rfl
end
section
set_option maxRecDepth 20000
/-! THE LAW'S ENTRY: what its pieces share -/
def R_law : String := "StreamHashDeskLaw"
def lw_P (b : Addr) (xs : List Int32) (args : Array Value) (s : State) : Prop := args = #[.ref b] ∧ s.IntsAt b xs ∧ xs.length ≤ 96 ∧ (Jvm.Cond.and given_1 narrow_1).before args s = true
def lw_Q (_ : Array Value) (s : State) (o : Outcome) (t : State) : Prop := o = .returned (some (.int 1)) ∧ Framed s o t [] 1200192 5500522
def lw_Z (below : List Frame) (a : Array Value) (s : State) : State → Prop := fun t => ∃ o, t.status = .running ∧ Ended t below o ∧ lw_Q a s o t
/-- the law's own end, with 1 on the stack, nothing written that was there before, its room as the claim has it -/
theorem lw_ret {p : Program} {l : Launch} {e : Env} {s : State} {m : MethodId} {below : List Frame} {meth : Method} {c : Code} {b : Nat} (hx : p.tables.exec = Jvm.exec) (hb : c.code = code) (hr : meth.sig.returnType = ret) (hlocks : meth.locks = false) {pc : Nat} {H : Heap} {ls : Array Slot} (hdg : decode code pc = .ok (.ireturn, 1)) : W p l e room_1 s m #[Value.ref b] below meth c H [] 1200192 5500522 (lw_Z below #[Value.ref b] s) (F0 m pc ls [.int 1]) := by
  intro T hT X
  obtain ⟨fs, hret, hrun, hended, hW, hframe⟩ := X.leave (v := some (.int 1)) (hlocks := hlocks) (fun h => by rw [hr] at h; cases h)
  have hmeth' : T.vm.method? m = some meth := X.method'
  refine ⟨T.setFrames fs, ?_, .returned (some (.int 1)), hrun, hended, rfl, ⟨_, rfl⟩, hW, hframe⟩
  jvm_step X.here [X.here.top, hx, hb, hdg, hmeth', hr, ret, narrow_b1]
  (try refine ⟨rfl, ?_⟩); (try refine ⟨rfl, ?_⟩)
  first | (intro acts; rw [hret _ acts rfl rfl rfl]) | rw [hret _ _ rfl rfl rfl]
  exact Steps.refl _
/-- what holds at the law's entry: the machine, the code, the tables' words, the script of L ints xs at the cell b, what the Statement gives of the start -/
def lw_At (p : Program) (s : State) (m : MethodId) (meth : Method) (c : Code) (b L : Nat) (xs : Nat → Int32) : Prop :=
  p.tables.exec = Jvm.exec ∧ c.code = code ∧ meth.sig.returnType = ret ∧ c.maxLocals = 16 ∧ s.vm.findClass R_law = some m.cls ∧ (∀ w ∈ lw_tbl, w.before #[Value.ref b] s = true) ∧ va_X b L xs s s.heap ∧ b < s.heap.size ∧ meth.locks = false ∧ (Jvm.Cond.and given_1 narrow_1).before #[Value.ref b] s = true
/-- what every piece of the law's walk knows -/
def lwx (p : Program) (s : State) (m : MethodId) (meth : Method) (c : Code) (b L : Nat) (xs : Nat → Int32) (A : Nat → Prop) : Prop :=
  p.tables.exec = Jvm.exec ∧ c.code = cL_law ∧ meth.sig.returnType = ret ∧ c.maxLocals = 16 ∧ s.vm.findClass RX0 = some m.cls ∧ (∀ w ∈ lw_all, w.before (#[Value.ref b] : Array Value) s = true) ∧ va_X b L xs s s.heap ∧ b < s.heap.size ∧ meth.locks = false ∧ hk_nw s ∧ L ≤ 96 ∧ (∀ q : Nat, s.heap.size ≤ q → A q) ∧ (∀ q : Nat, A q → s.heap.size ≤ q)
/-- the law's world: the desk, its text, the hasher's cell, the law's own object, its bytes, its text -/
abbrev lwW (qd qt ql qf qx : Nat) (ct cf cx : ClassId) (qh n : Nat) (tx : Nat → Int32) (rv : Value) (e0 : va_E) (fd lsz lsd : Int32) (ff : Nat → Int32) : va_W := [(qd, .inr (1, [.ref qt, .int (nI n), rv, .int fd])), (qt, .inl (ct, 256, .inl tx)), (qh, e0), (ql, .inr (0, [.ref qf, .int lsz, .int lsd])), (qf, .inl (cf, 4096, .inl ff)), (qx, .inl (cx, 256, .inl tx))]
abbrev lwT (ct cf cx : ClassId) : hk_T := [(ct, .byte), (cf, .byte), (cx, .byte)]
/-- the invariant between the acts -/
def lwI (s : State) (A : Nat → Prop) (D : va_G) (qd qt ql qf qx : Nat) (ct cf cx : ClassId) (qh n : Nat) (tx : Nat → Int32) (rv : Value) (e0 : va_E) (fd lsz lsd : Int32) (ff : Nat → Int32) (H : Heap) (locs : List Loc) : Prop :=
  va_K D vwCl (lwT ct cf cx) s ∧ va_P D vwCl (lwW qd qt ql qf qx ct cf cx qh n tx rv e0 fd lsz lsd ff) H ∧ va_D A (lwW qd qt ql qf qx ct cf cx qh n tx rv e0 fd lsz lsd ff) ∧ va_S A s.heap H locs ∧ n ≤ 256 ∧ runRel rv qh e0 fd lsz lsd ff
/-- the law's locals at the head of its loop -/
abbrev lwL (b qd ql qx n i : Nat) : List (Nat × Value) := [(0, .ref b), (1, .ref qd), (2, .ref ql), (3, .ref qx), (4, .int (nI n)), (5, .int (nI (6 * i)))]
abbrev lwL5 (x7 x8 x9 x10 x11 : Int32) : List (Nat × Value) := [(7, .int x7), (8, .int x8), (9, .int x9), (10, .int x10), (11, .int x11)]
/-- to go on from a place, with any world that keeps the invariant -/
def lwG (p : Program) (l : Launch) (e : Env) (s : State) (m : MethodId) (below : List Frame) (meth : Method) (c : Code) (b : Nat) (A : Nat → Prop) (D : va_G) (qd qt ql qf qx : Nat) (ct cf cx : ClassId) (cells slots pc : Nat) (lo : Nat → List (Nat × Value)) : Prop :=
  ∀ (qh n : Nat) (tx : Nat → Int32) (rv : Value) (e0 : va_E) (fd lsz lsd : Int32) (ff : Nat → Int32) (H : Heap) (locs : List Loc) (ls : Array Slot), lwI s A D qd qt ql qf qx ct cf cx qh n tx rv e0 fd lsz lsd ff H locs → lv_has ls 16 (lo n) →
    W p l e room_1 s m (#[Value.ref b] : Array Value) below meth c H locs cells slots (lw_Z below #[Value.ref b] s) (F0 m pc ls [])
end
section
/-! THE LAW'S ENTRY, in pieces -/
set_option maxHeartbeats 4000000 in
set_option maxRecDepth 100000 in
/-- isLet at any place: what was fed is let, or not; the pictures agree again -/
theorem let_step {p : Program} {l : Launch} {e : Env} {s : State} {m : MethodId} {below : List Frame} {meth : Method} {c : Code} {b L : Nat} {xs : Nat → Int32} {A : Nat → Prop} {D : va_G} {qd qt ql qf qx : Nat} {ct cf cx : ClassId} {cells slots pc : Nat} {ls : Array Slot} {lo : List (Nat × Value)} {qh qm n cn : Nat} {cm : ClassId} {tx ff mo : Nat → Int32} {rv : Value} {e0 e1 : va_E} {fd fd1 lsz lsd z : Int32} {g : Nat → Nat} {H : Heap} {locs : List Loc} (C0 : lwx p s m meth c b L xs A) (hdg : decode cL_law pc = .ok (.invokevirtual 80, 3)) (hl : lv_has ls 16 lo) (hR : runRel rv qh e0 fd lsz lsd ff) (hF : fedL rv qh e0 fd lsz lsd ff cn g z (fd1, e1)) (hm : ∀ j, j < cn → uN (mo j) % 256 = g j % 256) (hc : cn ≤ 256) (hce : cells ≤ 1200192) (hsl : slots ≤ 5500522) (hK : va_K D vwCl [(ct, .byte), (cf, .byte), (cx, .byte), (cm, .byte)] s) (hP : va_P D vwCl [(qd, .inr (1, [.ref qt, .int (nI n), rv, .int fd1])), (qt, .inl (ct, 256, .inl tx)), (qh, e1), (ql, .inr (0, [.ref qf, .int lsz, .int lsd])), (qf, .inl (cf, 4096, .inl ff)), (qx, .inl (cx, 256, .inl tx)), (qm, .inl (cm, cn, .inl mo))] H) (hD : va_D A [(qd, .inr (1, [.ref qt, .int (nI n), rv, .int fd1])), (qt, .inl (ct, 256, .inl tx)), (qh, e1), (ql, .inr (0, [.ref qf, .int lsz, .int lsd])), (qf, .inl (cf, 4096, .inl ff)), (qx, .inl (cx, 256, .inl tx)), (qm, .inl (cm, cn, .inl mo))]) (hS : va_S A s.heap H locs) (kk : ∀ (lsz1 : Int32) (ff1 : Nat → Int32) (H : Heap) (locs : List Loc), va_K D vwCl (lwT ct cf cx) s → va_P D vwCl [(qd, .inr (1, [.ref qt, .int (nI n), rv, .int fd1])), (qt, .inl (ct, 256, .inl tx)), (qh, e1), (ql, .inr (0, [.ref qf, .int lsz1, .int lsd])), (qf, .inl (cf, 4096, .inl ff1)), (qx, .inl (cx, 256, .inl tx))] H → va_D A [(qd, .inr (1, [.ref qt, .int (nI n), rv, .int fd1])), (qt, .inl (ct, 256, .inl tx)), (qh, e1), (ql, .inr (0, [.ref qf, .int lsz1, .int lsd])), (qf, .inl (cf, 4096, .inl ff1)), (qx, .inl (cx, 256, .inl tx))] → va_S A s.heap H locs → runRel rv qh e1 fd1 lsz1 lsd ff1 → W p l e room_1 s m (#[Value.ref b] : Array Value) below meth c H locs cells slots (lw_Z below #[Value.ref b] s) (F0 m (pc + 3) ls [.int 1])) : W p l e room_1 s m (#[Value.ref b] : Array Value) below meth c H locs cells slots (lw_Z below #[Value.ref b] s) (F0 m pc ls [.ref qm, .int z, .ref ql]) := by
  obtain ⟨hx, hb, hr, hml, hown, hts, hX, hbl, hlocks, hN, hL, hA, hA9⟩ := id C0
  have hbA : ¬ A b := fun h => absurd hbl (Nat.not_lt.mpr (hA9 b h))
  rcases hF with ⟨hz, hu, hno⟩ | ⟨k, hk1, hk2, hz, hd⟩
  · subst hz
    have hR1 : runRel rv qh e1 fd1 lsz lsd ff := by rw [show fd1 = fd from congrArg Prod.fst hu, show e1 = e0 from congrArg Prod.snd hu]; exact hR
    refine hk_ci (wr := [(qd, .inr (1, [.ref qt, .int (nI n), rv, .int fd1])), (qt, .inl (ct, 256, .inl tx)), (qh, e1), (qf, .inl (cf, 4096, .inl ff)), (qx, .inl (cx, 256, .inl tx))]) (va_runV (As := [.int 0, .ref qm]) (rest := []) ⟨hx, hb, hml, hown, hts⟩ (met_l0 l D H.size ql qm (.ref qf) lsz lsd cm cn mo hc hno) (cwV 2 hts (lw_V q402 q404 qs4 q6 q405) rfl rfl rfl (by decide +kernel) ⟨Nat.le_of_ble_eq_true rfl, Nat.le_of_ble_eq_true rfl⟩) (hk_BV (hP.sub (ws' := [(ql, .inr (0, [.ref qf, .int lsz, .int lsd])), (qm, .inl (cm, cn, .inl mo))]) [3, 6] rfl) (hK.sub (tys' := [(cm, .byte)]) [3] rfl) hN (hD.sub (ws' := [(ql, .inr (0, [.ref qf, .int lsz, .int lsd])), (qm, .inl (cm, cn, .inl mo))]) [3, 6] (by decide) rfl) (va_recv hK hP (ci := 0) (q0 := 3) rfl rfl)) rfl rfl hl.1 rfl (lv_room (Nat.le_of_ble_eq_true rfl)) hdg ⟨by show cells + 0 ≤ 1200192; omega, by show slots + 0 ≤ 5500522; omega⟩) hP hD hK hS hA [3, 6] [0, 1, 2, 4, 5] rfl rfl (by decide) (by decide) (fun r_1 u_3 H locs h_2 hP hD hK hS => ?_)
    have hP : va_P D vwCl [(qd, .inr (1, [.ref qt, .int (nI n), rv, .int fd1])), (qt, .inl (ct, 256, .inl tx)), (qh, e1), (qf, .inl (cf, 4096, .inl ff)), (qx, .inl (cx, 256, .inl tx)), (ql, .inr (0, [.ref qf, .int lsz, .int lsd])), (qm, .inl (cm, cn, .inl mo))] H := hP
    have hD : va_D A [(qd, .inr (1, [.ref qt, .int (nI n), rv, .int fd1])), (qt, .inl (ct, 256, .inl tx)), (qh, e1), (qf, .inl (cf, 4096, .inl ff)), (qx, .inl (cx, 256, .inl tx)), (ql, .inr (0, [.ref qf, .int lsz, .int lsd])), (qm, .inl (cm, cn, .inl mo))] := hD
    have hK := hK.sub (tys' := [(ct, .byte), (cf, .byte), (cx, .byte), (cm, .byte)]) [0, 1, 2, 3] rfl
    obtain rfl : r_1 = 1 := h_2
    have hP := hP.sub (ws' := [(qd, .inr (1, [.ref qt, .int (nI n), rv, .int fd1])), (qt, .inl (ct, 256, .inl tx)), (qh, e1), (ql, .inr (0, [.ref qf, .int lsz, .int lsd])), (qf, .inl (cf, 4096, .inl ff)), (qx, .inl (cx, 256, .inl tx))]) [0, 1, 2, 5, 3, 4] rfl
    have hD := hD.sub (ws' := [(qd, .inr (1, [.ref qt, .int (nI n), rv, .int fd1])), (qt, .inl (ct, 256, .inl tx)), (qh, e1), (ql, .inr (0, [.ref qf, .int lsz, .int lsd])), (qf, .inl (cf, 4096, .inl ff)), (qx, .inl (cx, 256, .inl tx))]) [0, 1, 2, 5, 3, 4] (by decide) rfl
    have hK := hK.sub (tys' := [(ct, .byte), (cf, .byte), (cx, .byte)]) [0, 1, 2] rfl
    exact kk lsz ff H locs hK hP hD hS hR1
  · subst hz hk1
    refine hk_ci (wr := [(qd, .inr (1, [.ref qt, .int (nI n), rv, .int fd1])), (qt, .inl (ct, 256, .inl tx)), (qh, e1), (qx, .inl (cx, 256, .inl tx))]) (va_runV (As := [.int 1, .ref qm]) (rest := []) ⟨hx, hb, hml, hown, hts⟩ (met_l1 l D H.size ql qf qm k lsd cf cm ff cn mo hc hk2) (cwV 2 hts (lw_V q402 q404 qs4 q6 q405) rfl rfl rfl (by decide +kernel) ⟨Nat.le_of_ble_eq_true rfl, Nat.le_of_ble_eq_true rfl⟩) (hk_BV (hP.sub (ws' := [(ql, .inr (0, [.ref qf, .int (nI k), .int lsd])), (qf, .inl (cf, 4096, .inl ff)), (qm, .inl (cm, cn, .inl mo))]) [3, 4, 6] rfl) (hK.sub (tys' := [(cf, .byte), (cm, .byte)]) [1, 3] rfl) hN (hD.sub (ws' := [(ql, .inr (0, [.ref qf, .int (nI k), .int lsd])), (qf, .inl (cf, 4096, .inl ff)), (qm, .inl (cm, cn, .inl mo))]) [3, 4, 6] (by decide) rfl) (va_recv hK hP (ci := 0) (q0 := 3) rfl rfl)) rfl rfl hl.1 rfl (lv_room (Nat.le_of_ble_eq_true rfl)) hdg ⟨by show cells + 0 ≤ 1200192; omega, by show slots + 0 ≤ 5500522; omega⟩) hP hD hK hS hA [3, 4, 6] [0, 1, 2, 5] rfl rfl (by decide) (by decide) (fun r_4 u_6 H locs h_5 hP hD hK hS => ?_)
    have hP : va_P D vwCl [(qd, .inr (1, [.ref qt, .int (nI n), rv, .int fd1])), (qt, .inl (ct, 256, .inl tx)), (qh, e1), (qx, .inl (cx, 256, .inl tx)), (ql, .inr (0, [.ref qf, .int (nI (k + cn)), .int lsd])), (qf, .inl (cf, 4096, .inl (cpf ff k mo cn))), (qm, .inl (cm, cn, .inl mo))] H := hP
    have hD : va_D A [(qd, .inr (1, [.ref qt, .int (nI n), rv, .int fd1])), (qt, .inl (ct, 256, .inl tx)), (qh, e1), (qx, .inl (cx, 256, .inl tx)), (ql, .inr (0, [.ref qf, .int (nI (k + cn)), .int lsd])), (qf, .inl (cf, 4096, .inl (cpf ff k mo cn))), (qm, .inl (cm, cn, .inl mo))] := hD
    have hK := hK.sub (tys' := [(ct, .byte), (cf, .byte), (cx, .byte), (cm, .byte)]) [0, 1, 2, 3] rfl
    obtain rfl : r_4 = 1 := h_5
    have hP := hP.sub (ws' := [(qd, .inr (1, [.ref qt, .int (nI n), rv, .int fd1])), (qt, .inl (ct, 256, .inl tx)), (qh, e1), (ql, .inr (0, [.ref qf, .int (nI (k + cn)), .int lsd])), (qf, .inl (cf, 4096, .inl (cpf ff k mo cn))), (qx, .inl (cx, 256, .inl tx))]) [0, 1, 2, 4, 5, 3] rfl
    have hD := hD.sub (ws' := [(qd, .inr (1, [.ref qt, .int (nI n), rv, .int fd1])), (qt, .inl (ct, 256, .inl tx)), (qh, e1), (ql, .inr (0, [.ref qf, .int (nI (k + cn)), .int lsd])), (qf, .inl (cf, 4096, .inl (cpf ff k mo cn))), (qx, .inl (cx, 256, .inl tx))]) [0, 1, 2, 4, 5, 3] (by decide) rfl
    have hK := hK.sub (tys' := [(ct, .byte), (cf, .byte), (cx, .byte)]) [0, 1, 2] rfl
    exact kk (nI (k + cn)) (cpf ff k mo cn) H locs hK hP hD hS (run_fed hd hm)
theorem lwG_widen {p : Program} {l : Launch} {e : Env} {s : State} {m : MethodId} {below : List Frame} {meth : Method} {c : Code} {b L : Nat} {xs : Nat → Int32} {A : Nat → Prop} {D : va_G} {qd qt ql qf qx : Nat} {ct cf cx : ClassId} {cells slots cells' slots' pc : Nat} {lo : Nat → List (Nat × Value)} (h1 : cells ≤ cells') (h2 : slots ≤ slots') (K : lwG p l e s m below meth c b A D qd qt ql qf qx ct cf cx cells' slots' pc lo) : lwG p l e s m below meth c b A D qd qt ql qf qx ct cf cx cells slots pc lo := fun qh n tx rv e0 fd lsz lsd ff H locs ls hI hl => W.widen h1 h2 (K qh n tx rv e0 fd lsz lsd ff H locs ls hI hl)
end
section
/-! THE LAW'S ENTRY, in pieces -/
set_option maxHeartbeats 4000000 in
set_option maxRecDepth 100000 in
/-- act 8: single bytes and an int are fed -/
theorem act_8 {p : Program} {l : Launch} {e : Env} {s : State} {m : MethodId} {below : List Frame} {meth : Method} {c : Code} {b L : Nat} {xs : Nat → Int32} {A : Nat → Prop} {D : va_G} {qd qt ql qf qx : Nat} {ct cf cx : ClassId} {cells slots i : Nat} {x7 x8 x9 x10 x11 : Int32} (C0 : lwx p s m meth c b L xs A) (hce : cells + 64 ≤ 1200192) (hsl : slots + 16640 ≤ 5500522) (K : lwG p l e s m below meth c b A D qd qt ql qf qx ct cf cx (cells + 64) (slots + 16640) 606 (fun n => lwL b qd ql qx n i ++ lwL5 x7 x8 x9 x10 x11)) : lwG p l e s m below meth c b A D qd qt ql qf qx ct cf cx cells slots 418 (fun n => lwL b qd ql qx n i ++ lwL5 x7 x8 x9 x10 x11 ++ [(12, .int (nI (mdN x7 (n + 1)))), (13, .int (nI (mdN x8 (n - mdN x7 (n + 1) + 1))))]) := by
  intro qh n tx rv e0 fd lsz lsd ff H locs ls hI hl
  obtain ⟨hK, hP, hD, hS, hn, hR⟩ := hI
  obtain ⟨hx, hb, hr, hml, hown, hts, hX, hbl, hlocks, hN, hL, hA, hA9⟩ := id C0
  have hbA : ¬ A b := fun h => absurd hbl (Nat.not_lt.mpr (hA9 b h))
  have hP : va_P D vwCl [(qd, .inr (1, [.ref qt, .int (nI n), rv, .int fd])), (qt, .inl (ct, 256, .inl tx)), (qh, e0), (ql, .inr (0, [.ref qf, .int lsz, .int lsd])), (qf, .inl (cf, 4096, .inl ff)), (qx, .inl (cx, 256, .inl tx))] H := hP
  have hD : va_D A [(qd, .inr (1, [.ref qt, .int (nI n), rv, .int fd])), (qt, .inl (ct, 256, .inl tx)), (qh, e0), (ql, .inr (0, [.ref qf, .int lsz, .int lsd])), (qf, .inl (cf, 4096, .inl ff)), (qx, .inl (cx, 256, .inl tx))] := hD
  have hK : va_K D vwCl [(ct, .byte), (cf, .byte), (cx, .byte)] s := hK
  have hl : lv_has ls 16 [(0, .ref b), (1, .ref qd), (2, .ref ql), (3, .ref qx), (4, .int (nI n)), (5, .int (nI (6 * i))), (7, .int x7), (8, .int x8), (9, .int x9), (10, .int x10), (11, .int x11), (12, .int (nI (mdN x7 (n + 1)))), (13, .int (nI (mdN x8 (n - mdN x7 (n + 1) + 1))))] := hl
  refine lv_aload_n hx hb dL_law_418 rfl (lv_at hl 2 rfl) ?_
  refine lv_aload_n hx hb dL_law_419 rfl (lv_at hl 1 rfl) ?_
  refine lv_iload hx hb dL_law_420 (lv_at hl 6 rfl) ?_
  obtain ⟨r1, hr11, hr21⟩ := runRel_r hR
  refine hk_ci (wr := [(qt, .inl (ct, 256, .inl tx)), (ql, .inr (0, [.ref qf, .int lsz, .int lsd])), (qf, .inl (cf, 4096, .inl ff)), (qx, .inl (cx, 256, .inl tx))]) (va_runV (As := [.int x7]) (rest := [.ref ql]) ⟨hx, hb, hml, hown, hts⟩ (met_on l D H.size qd qh n (.ref qt) rv e0 fd r1 x7 hn hr11) (cwV 1 hts (lw_V q225 q226 q227 q7 q228) rfl rfl rfl (by decide +kernel) ⟨Nat.le_of_ble_eq_true rfl, Nat.le_of_ble_eq_true rfl⟩) (hk_BV (hP.sub (ws' := [(qd, .inr (1, [.ref qt, .int (nI n), rv, .int fd])), (qh, e0)]) [0, 2] rfl) (hK.sub (tys' := []) [] rfl) hN (hD.sub (ws' := [(qd, .inr (1, [.ref qt, .int (nI n), rv, .int fd])), (qh, e0)]) [0, 2] (by decide) rfl) (va_recv hK hP (ci := 1) (q0 := 0) rfl rfl)) rfl rfl hl.1 rfl (lv_room (Nat.le_of_ble_eq_true rfl)) dL_law_422 ⟨by show cells + 0 ≤ 1200192; omega, by show slots + 0 ≤ 5500522; omega⟩) hP hD hK hS hA [0, 2] [1, 3, 4, 5] rfl rfl (by decide) (by decide) (fun z1 u_2 H locs hf1 hP hD hK hS => ?_)
  obtain ⟨fd1, e1⟩ := u_2
  have hP : va_P D vwCl [(qt, .inl (ct, 256, .inl tx)), (ql, .inr (0, [.ref qf, .int lsz, .int lsd])), (qf, .inl (cf, 4096, .inl ff)), (qx, .inl (cx, 256, .inl tx)), (qd, .inr (1, [.ref qt, .int (nI n), rv, .int fd1])), (qh, e1)] H := hP
  have hD : va_D A [(qt, .inl (ct, 256, .inl tx)), (ql, .inr (0, [.ref qf, .int lsz, .int lsd])), (qf, .inl (cf, 4096, .inl ff)), (qx, .inl (cx, 256, .inl tx)), (qd, .inr (1, [.ref qt, .int (nI n), rv, .int fd1])), (qh, e1)] := hD
  have hK : va_K D vwCl [(ct, .byte), (cf, .byte), (cx, .byte)] s := hK
  have hP := hP.sub (ws' := [(qd, .inr (1, [.ref qt, .int (nI n), rv, .int fd1])), (qt, .inl (ct, 256, .inl tx)), (qh, e1), (ql, .inr (0, [.ref qf, .int lsz, .int lsd])), (qf, .inl (cf, 4096, .inl ff)), (qx, .inl (cx, 256, .inl tx))]) [4, 0, 5, 1, 2, 3] rfl
  have hD := hD.sub (ws' := [(qd, .inr (1, [.ref qt, .int (nI n), rv, .int fd1])), (qt, .inl (ct, 256, .inl tx)), (qh, e1), (ql, .inr (0, [.ref qf, .int lsz, .int lsd])), (qf, .inl (cf, 4096, .inl ff)), (qx, .inl (cx, 256, .inl tx))]) [4, 0, 5, 1, 2, 3] (by decide) rfl
  have hF1 := fedL_of hr21 hf1
  refine lv_iload hx hb dL_law_425 (lv_at hl 6 rfl) ?_
  refine lv_i2l (v := (x7 : Int32).toInt64) hx hb dL_law_427 rfl ?_
  refine lv_iconst (v := 1) hx hb dL_law_428 (by decide) ?_
  refine hk_ti (y := nI 1) (rfl) ?_
  refine hk_cr (wr := [(qd, .inr (1, [.ref qt, .int (nI n), rv, .int fd1])), (qt, .inl (ct, 256, .inl tx)), (qh, e1), (ql, .inr (0, [.ref qf, .int lsz, .int lsd])), (qf, .inl (cf, 4096, .inl ff)), (qx, .inl (cx, 256, .inl tx))]) (va_runS (As := [.long ((x7 : Int32).toInt64), .int (nI 1)]) (rest := [.int z1, .ref ql]) ⟨hx, hb, hml, hown, hts⟩ (met_by l D H.size x7.toInt64 1 (by decide)) (va_cwS 2 hts (lw_S q396 q397 q6 q398) rfl rfl rfl (by decide +kernel) ⟨Nat.le_of_ble_eq_true rfl, Nat.le_of_ble_eq_true rfl⟩) (hk_BS (hP.sub (ws' := []) [] rfl) (hK.sub (tys' := []) [] rfl) hN (hD.sub (ws' := []) [] (by decide) rfl)) rfl rfl hl.1 rfl (lv_room (Nat.le_of_ble_eq_true rfl)) dL_law_429 ⟨by show cells + 0 + 1 ≤ 1200192; omega, by show slots + 0 + 8 ≤ 5500522; omega⟩) hP hD hK hS hA [] [0, 1, 2, 3, 4, 5] rfl rfl (by decide) (by decide) (fun w1 q1 H locs hw1 hP hD hK hS => ?_)
  have hP : va_P D vwCl [(qd, .inr (1, [.ref qt, .int (nI n), rv, .int fd1])), (qt, .inl (ct, 256, .inl tx)), (qh, e1), (ql, .inr (0, [.ref qf, .int lsz, .int lsd])), (qf, .inl (cf, 4096, .inl ff)), (qx, .inl (cx, 256, .inl tx)), (q1, .inl (w1.1, 1, .inl w1.2))] H := hP
  have hD : va_D A [(qd, .inr (1, [.ref qt, .int (nI n), rv, .int fd1])), (qt, .inl (ct, 256, .inl tx)), (qh, e1), (ql, .inr (0, [.ref qf, .int lsz, .int lsd])), (qf, .inl (cf, 4096, .inl ff)), (qx, .inl (cx, 256, .inl tx)), (q1, .inl (w1.1, 1, .inl w1.2))] := hD
  have hK : va_K D vwCl [(ct, .byte), (cf, .byte), (cx, .byte), (w1.1, .byte)] s := hK
  refine let_step C0 dL_law_432 hl hR hF1 (by_1 x7 hw1) (by decide) (by omega) (by omega) hK hP hD hS (fun lsz1 ff1 H locs hK hP hD hS hR => ?_)
  refine lv_if_eq (tgt := 498) hx hb dL_law_435 (by decide) (fun c_4 => absurd c_4 (by decide)) (fun c_4 => ?_)
  refine lv_aload_n hx hb dL_law_438 rfl (lv_at hl 2 rfl) ?_
  refine lv_aload_n hx hb dL_law_439 rfl (lv_at hl 1 rfl) ?_
  refine lv_iload hx hb dL_law_440 (lv_at hl 7 rfl) ?_
  obtain ⟨r5, hr15, hr25⟩ := runRel_r hR
  refine hk_ci (wr := [(qt, .inl (ct, 256, .inl tx)), (ql, .inr (0, [.ref qf, .int lsz1, .int lsd])), (qf, .inl (cf, 4096, .inl ff1)), (qx, .inl (cx, 256, .inl tx))]) (va_runV (As := [.int x8]) (rest := [.ref ql]) ⟨hx, hb, hml, hown, hts⟩ (met_on l D H.size qd qh n (.ref qt) rv e1 fd1 r5 x8 hn hr15) (cwV 1 hts (lw_V q225 q226 q227 q7 q228) rfl rfl rfl (by decide +kernel) ⟨Nat.le_of_ble_eq_true rfl, Nat.le_of_ble_eq_true rfl⟩) (hk_BV (hP.sub (ws' := [(qd, .inr (1, [.ref qt, .int (nI n), rv, .int fd1])), (qh, e1)]) [0, 2] rfl) (hK.sub (tys' := []) [] rfl) hN (hD.sub (ws' := [(qd, .inr (1, [.ref qt, .int (nI n), rv, .int fd1])), (qh, e1)]) [0, 2] (by decide) rfl) (va_recv hK hP (ci := 1) (q0 := 0) rfl rfl)) rfl rfl hl.1 rfl (lv_room (Nat.le_of_ble_eq_true rfl)) dL_law_442 ⟨by show cells + 0 + 1 + 0 ≤ 1200192; omega, by show slots + 0 + 8 + 0 ≤ 5500522; omega⟩) hP hD hK hS hA [0, 2] [1, 3, 4, 5] rfl rfl (by decide) (by decide) (fun z5 u_6 H locs hf5 hP hD hK hS => ?_)
  obtain ⟨fd5, e5⟩ := u_6
  have hP : va_P D vwCl [(qt, .inl (ct, 256, .inl tx)), (ql, .inr (0, [.ref qf, .int lsz1, .int lsd])), (qf, .inl (cf, 4096, .inl ff1)), (qx, .inl (cx, 256, .inl tx)), (qd, .inr (1, [.ref qt, .int (nI n), rv, .int fd5])), (qh, e5)] H := hP
  have hD : va_D A [(qt, .inl (ct, 256, .inl tx)), (ql, .inr (0, [.ref qf, .int lsz1, .int lsd])), (qf, .inl (cf, 4096, .inl ff1)), (qx, .inl (cx, 256, .inl tx)), (qd, .inr (1, [.ref qt, .int (nI n), rv, .int fd5])), (qh, e5)] := hD
  have hK : va_K D vwCl [(ct, .byte), (cf, .byte), (cx, .byte)] s := hK
  have hP := hP.sub (ws' := [(qd, .inr (1, [.ref qt, .int (nI n), rv, .int fd5])), (qt, .inl (ct, 256, .inl tx)), (qh, e5), (ql, .inr (0, [.ref qf, .int lsz1, .int lsd])), (qf, .inl (cf, 4096, .inl ff1)), (qx, .inl (cx, 256, .inl tx))]) [4, 0, 5, 1, 2, 3] rfl
  have hD := hD.sub (ws' := [(qd, .inr (1, [.ref qt, .int (nI n), rv, .int fd5])), (qt, .inl (ct, 256, .inl tx)), (qh, e5), (ql, .inr (0, [.ref qf, .int lsz1, .int lsd])), (qf, .inl (cf, 4096, .inl ff1)), (qx, .inl (cx, 256, .inl tx))]) [4, 0, 5, 1, 2, 3] (by decide) rfl
  have hF5 := fedL_of hr25 hf5
  refine lv_iload hx hb dL_law_445 (lv_at hl 7 rfl) ?_
  refine lv_i2l (v := (x8 : Int32).toInt64) hx hb dL_law_447 rfl ?_
  refine lv_iconst (v := 1) hx hb dL_law_448 (by decide) ?_
  refine hk_ti (y := nI 1) (rfl) ?_
  refine hk_cr (wr := [(qd, .inr (1, [.ref qt, .int (nI n), rv, .int fd5])), (qt, .inl (ct, 256, .inl tx)), (qh, e5), (ql, .inr (0, [.ref qf, .int lsz1, .int lsd])), (qf, .inl (cf, 4096, .inl ff1)), (qx, .inl (cx, 256, .inl tx))]) (va_runS (As := [.long ((x8 : Int32).toInt64), .int (nI 1)]) (rest := [.int z5, .ref ql]) ⟨hx, hb, hml, hown, hts⟩ (met_by l D H.size x8.toInt64 1 (by decide)) (va_cwS 2 hts (lw_S q396 q397 q6 q398) rfl rfl rfl (by decide +kernel) ⟨Nat.le_of_ble_eq_true rfl, Nat.le_of_ble_eq_true rfl⟩) (hk_BS (hP.sub (ws' := []) [] rfl) (hK.sub (tys' := []) [] rfl) hN (hD.sub (ws' := []) [] (by decide) rfl)) rfl rfl hl.1 rfl (lv_room (Nat.le_of_ble_eq_true rfl)) dL_law_449 ⟨by show cells + 0 + 1 + 0 + 1 ≤ 1200192; omega, by show slots + 0 + 8 + 0 + 8 ≤ 5500522; omega⟩) hP hD hK hS hA [] [0, 1, 2, 3, 4, 5] rfl rfl (by decide) (by decide) (fun w5 q5 H locs hw5 hP hD hK hS => ?_)
  have hP : va_P D vwCl [(qd, .inr (1, [.ref qt, .int (nI n), rv, .int fd5])), (qt, .inl (ct, 256, .inl tx)), (qh, e5), (ql, .inr (0, [.ref qf, .int lsz1, .int lsd])), (qf, .inl (cf, 4096, .inl ff1)), (qx, .inl (cx, 256, .inl tx)), (q5, .inl (w5.1, 1, .inl w5.2))] H := hP
  have hD : va_D A [(qd, .inr (1, [.ref qt, .int (nI n), rv, .int fd5])), (qt, .inl (ct, 256, .inl tx)), (qh, e5), (ql, .inr (0, [.ref qf, .int lsz1, .int lsd])), (qf, .inl (cf, 4096, .inl ff1)), (qx, .inl (cx, 256, .inl tx)), (q5, .inl (w5.1, 1, .inl w5.2))] := hD
  have hK : va_K D vwCl [(ct, .byte), (cf, .byte), (cx, .byte), (w5.1, .byte)] s := hK
  refine let_step C0 dL_law_452 hl hR hF5 (by_1 x8 hw5) (by decide) (by omega) (by omega) hK hP hD hS (fun lsz5 ff5 H locs hK hP hD hS hR => ?_)
  refine lv_if_eq (tgt := 498) hx hb dL_law_455 (by decide) (fun c_8 => absurd c_8 (by decide)) (fun c_8 => ?_)
  refine lv_aload_n hx hb dL_law_458 rfl (lv_at hl 2 rfl) ?_
  refine lv_aload_n hx hb dL_law_459 rfl (lv_at hl 1 rfl) ?_
  refine lv_iload hx hb dL_law_460 (lv_at hl 8 rfl) ?_
  obtain ⟨r9, hr19, hr29⟩ := runRel_r hR
  refine hk_ci (wr := [(qt, .inl (ct, 256, .inl tx)), (ql, .inr (0, [.ref qf, .int lsz5, .int lsd])), (qf, .inl (cf, 4096, .inl ff5)), (qx, .inl (cx, 256, .inl tx))]) (va_runV (As := [.int x9]) (rest := [.ref ql]) ⟨hx, hb, hml, hown, hts⟩ (met_wo l D H.size qd qh n (.ref qt) rv e5 fd5 r9 x9 hn hr19) (cwV 1 hts (lw_V q236 q237 q238 q7 q239) rfl rfl rfl (by decide +kernel) ⟨Nat.le_of_ble_eq_true rfl, Nat.le_of_ble_eq_true rfl⟩) (hk_BV (hP.sub (ws' := [(qd, .inr (1, [.ref qt, .int (nI n), rv, .int fd5])), (qh, e5)]) [0, 2] rfl) (hK.sub (tys' := []) [] rfl) hN (hD.sub (ws' := [(qd, .inr (1, [.ref qt, .int (nI n), rv, .int fd5])), (qh, e5)]) [0, 2] (by decide) rfl) (va_recv hK hP (ci := 1) (q0 := 0) rfl rfl)) rfl rfl hl.1 rfl (lv_room (Nat.le_of_ble_eq_true rfl)) dL_law_462 ⟨by show cells + 0 + 1 + 0 + 1 + 0 ≤ 1200192; omega, by show slots + 0 + 8 + 0 + 8 + 0 ≤ 5500522; omega⟩) hP hD hK hS hA [0, 2] [1, 3, 4, 5] rfl rfl (by decide) (by decide) (fun z9 u_10 H locs hf9 hP hD hK hS => ?_)
  obtain ⟨fd9, e9⟩ := u_10
  have hP : va_P D vwCl [(qt, .inl (ct, 256, .inl tx)), (ql, .inr (0, [.ref qf, .int lsz5, .int lsd])), (qf, .inl (cf, 4096, .inl ff5)), (qx, .inl (cx, 256, .inl tx)), (qd, .inr (1, [.ref qt, .int (nI n), rv, .int fd9])), (qh, e9)] H := hP
  have hD : va_D A [(qt, .inl (ct, 256, .inl tx)), (ql, .inr (0, [.ref qf, .int lsz5, .int lsd])), (qf, .inl (cf, 4096, .inl ff5)), (qx, .inl (cx, 256, .inl tx)), (qd, .inr (1, [.ref qt, .int (nI n), rv, .int fd9])), (qh, e9)] := hD
  have hK : va_K D vwCl [(ct, .byte), (cf, .byte), (cx, .byte)] s := hK
  have hP := hP.sub (ws' := [(qd, .inr (1, [.ref qt, .int (nI n), rv, .int fd9])), (qt, .inl (ct, 256, .inl tx)), (qh, e9), (ql, .inr (0, [.ref qf, .int lsz5, .int lsd])), (qf, .inl (cf, 4096, .inl ff5)), (qx, .inl (cx, 256, .inl tx))]) [4, 0, 5, 1, 2, 3] rfl
  have hD := hD.sub (ws' := [(qd, .inr (1, [.ref qt, .int (nI n), rv, .int fd9])), (qt, .inl (ct, 256, .inl tx)), (qh, e9), (ql, .inr (0, [.ref qf, .int lsz5, .int lsd])), (qf, .inl (cf, 4096, .inl ff5)), (qx, .inl (cx, 256, .inl tx))]) [4, 0, 5, 1, 2, 3] (by decide) rfl
  have hF9 := fedL_of hr29 hf9
  refine lv_iload hx hb dL_law_465 (lv_at hl 8 rfl) ?_
  refine lv_i2l (v := (x9 : Int32).toInt64) hx hb dL_law_467 rfl ?_
  refine lv_iconst (v := 4) hx hb dL_law_468 (by decide) ?_
  refine hk_ti (y := nI 4) (rfl) ?_
  refine hk_cr (wr := [(qd, .inr (1, [.ref qt, .int (nI n), rv, .int fd9])), (qt, .inl (ct, 256, .inl tx)), (qh, e9), (ql, .inr (0, [.ref qf, .int lsz5, .int lsd])), (qf, .inl (cf, 4096, .inl ff5)), (qx, .inl (cx, 256, .inl tx))]) (va_runS (As := [.long ((x9 : Int32).toInt64), .int (nI 4)]) (rest := [.int z9, .ref ql]) ⟨hx, hb, hml, hown, hts⟩ (met_by l D H.size x9.toInt64 4 (by decide)) (va_cwS 2 hts (lw_S q396 q397 q6 q398) rfl rfl rfl (by decide +kernel) ⟨Nat.le_of_ble_eq_true rfl, Nat.le_of_ble_eq_true rfl⟩) (hk_BS (hP.sub (ws' := []) [] rfl) (hK.sub (tys' := []) [] rfl) hN (hD.sub (ws' := []) [] (by decide) rfl)) rfl rfl hl.1 rfl (lv_room (Nat.le_of_ble_eq_true rfl)) dL_law_469 ⟨by show cells + 0 + 1 + 0 + 1 + 0 + 1 ≤ 1200192; omega, by show slots + 0 + 8 + 0 + 8 + 0 + 8 ≤ 5500522; omega⟩) hP hD hK hS hA [] [0, 1, 2, 3, 4, 5] rfl rfl (by decide) (by decide) (fun w9 q9 H locs hw9 hP hD hK hS => ?_)
  have hP : va_P D vwCl [(qd, .inr (1, [.ref qt, .int (nI n), rv, .int fd9])), (qt, .inl (ct, 256, .inl tx)), (qh, e9), (ql, .inr (0, [.ref qf, .int lsz5, .int lsd])), (qf, .inl (cf, 4096, .inl ff5)), (qx, .inl (cx, 256, .inl tx)), (q9, .inl (w9.1, 4, .inl w9.2))] H := hP
  have hD : va_D A [(qd, .inr (1, [.ref qt, .int (nI n), rv, .int fd9])), (qt, .inl (ct, 256, .inl tx)), (qh, e9), (ql, .inr (0, [.ref qf, .int lsz5, .int lsd])), (qf, .inl (cf, 4096, .inl ff5)), (qx, .inl (cx, 256, .inl tx)), (q9, .inl (w9.1, 4, .inl w9.2))] := hD
  have hK : va_K D vwCl [(ct, .byte), (cf, .byte), (cx, .byte), (w9.1, .byte)] s := hK
  refine let_step C0 dL_law_472 hl hR hF9 (by_4 x9 hw9) (by decide) (by omega) (by omega) hK hP hD hS (fun lsz9 ff9 H locs hK hP hD hS hR => ?_)
  refine lv_if_eq (tgt := 498) hx hb dL_law_475 (by decide) (fun c_12 => absurd c_12 (by decide)) (fun c_12 => ?_)
  refine lv_aload_n hx hb dL_law_478 rfl (lv_at hl 2 rfl) ?_
  refine lv_aload_n hx hb dL_law_479 rfl (lv_at hl 1 rfl) ?_
  refine lv_iload hx hb dL_law_480 (lv_at hl 9 rfl) ?_
  obtain ⟨r13, hr113, hr213⟩ := runRel_r hR
  refine hk_ci (wr := [(qt, .inl (ct, 256, .inl tx)), (ql, .inr (0, [.ref qf, .int lsz9, .int lsd])), (qf, .inl (cf, 4096, .inl ff9)), (qx, .inl (cx, 256, .inl tx))]) (va_runV (As := [.int x10]) (rest := [.ref ql]) ⟨hx, hb, hml, hown, hts⟩ (met_on l D H.size qd qh n (.ref qt) rv e9 fd9 r13 x10 hn hr113) (cwV 1 hts (lw_V q225 q226 q227 q7 q228) rfl rfl rfl (by decide +kernel) ⟨Nat.le_of_ble_eq_true rfl, Nat.le_of_ble_eq_true rfl⟩) (hk_BV (hP.sub (ws' := [(qd, .inr (1, [.ref qt, .int (nI n), rv, .int fd9])), (qh, e9)]) [0, 2] rfl) (hK.sub (tys' := []) [] rfl) hN (hD.sub (ws' := [(qd, .inr (1, [.ref qt, .int (nI n), rv, .int fd9])), (qh, e9)]) [0, 2] (by decide) rfl) (va_recv hK hP (ci := 1) (q0 := 0) rfl rfl)) rfl rfl hl.1 rfl (lv_room (Nat.le_of_ble_eq_true rfl)) dL_law_482 ⟨by show cells + 0 + 1 + 0 + 1 + 0 + 1 + 0 ≤ 1200192; omega, by show slots + 0 + 8 + 0 + 8 + 0 + 8 + 0 ≤ 5500522; omega⟩) hP hD hK hS hA [0, 2] [1, 3, 4, 5] rfl rfl (by decide) (by decide) (fun z13 u_14 H locs hf13 hP hD hK hS => ?_)
  obtain ⟨fd13, e13⟩ := u_14
  have hP : va_P D vwCl [(qt, .inl (ct, 256, .inl tx)), (ql, .inr (0, [.ref qf, .int lsz9, .int lsd])), (qf, .inl (cf, 4096, .inl ff9)), (qx, .inl (cx, 256, .inl tx)), (qd, .inr (1, [.ref qt, .int (nI n), rv, .int fd13])), (qh, e13)] H := hP
  have hD : va_D A [(qt, .inl (ct, 256, .inl tx)), (ql, .inr (0, [.ref qf, .int lsz9, .int lsd])), (qf, .inl (cf, 4096, .inl ff9)), (qx, .inl (cx, 256, .inl tx)), (qd, .inr (1, [.ref qt, .int (nI n), rv, .int fd13])), (qh, e13)] := hD
  have hK : va_K D vwCl [(ct, .byte), (cf, .byte), (cx, .byte)] s := hK
  have hP := hP.sub (ws' := [(qd, .inr (1, [.ref qt, .int (nI n), rv, .int fd13])), (qt, .inl (ct, 256, .inl tx)), (qh, e13), (ql, .inr (0, [.ref qf, .int lsz9, .int lsd])), (qf, .inl (cf, 4096, .inl ff9)), (qx, .inl (cx, 256, .inl tx))]) [4, 0, 5, 1, 2, 3] rfl
  have hD := hD.sub (ws' := [(qd, .inr (1, [.ref qt, .int (nI n), rv, .int fd13])), (qt, .inl (ct, 256, .inl tx)), (qh, e13), (ql, .inr (0, [.ref qf, .int lsz9, .int lsd])), (qf, .inl (cf, 4096, .inl ff9)), (qx, .inl (cx, 256, .inl tx))]) [4, 0, 5, 1, 2, 3] (by decide) rfl
  have hF13 := fedL_of hr213 hf13
  refine lv_iload hx hb dL_law_485 (lv_at hl 9 rfl) ?_
  refine lv_i2l (v := (x10 : Int32).toInt64) hx hb dL_law_487 rfl ?_
  refine lv_iconst (v := 1) hx hb dL_law_488 (by decide) ?_
  refine hk_ti (y := nI 1) (rfl) ?_
  refine hk_cr (wr := [(qd, .inr (1, [.ref qt, .int (nI n), rv, .int fd13])), (qt, .inl (ct, 256, .inl tx)), (qh, e13), (ql, .inr (0, [.ref qf, .int lsz9, .int lsd])), (qf, .inl (cf, 4096, .inl ff9)), (qx, .inl (cx, 256, .inl tx))]) (va_runS (As := [.long ((x10 : Int32).toInt64), .int (nI 1)]) (rest := [.int z13, .ref ql]) ⟨hx, hb, hml, hown, hts⟩ (met_by l D H.size x10.toInt64 1 (by decide)) (va_cwS 2 hts (lw_S q396 q397 q6 q398) rfl rfl rfl (by decide +kernel) ⟨Nat.le_of_ble_eq_true rfl, Nat.le_of_ble_eq_true rfl⟩) (hk_BS (hP.sub (ws' := []) [] rfl) (hK.sub (tys' := []) [] rfl) hN (hD.sub (ws' := []) [] (by decide) rfl)) rfl rfl hl.1 rfl (lv_room (Nat.le_of_ble_eq_true rfl)) dL_law_489 ⟨by show cells + 0 + 1 + 0 + 1 + 0 + 1 + 0 + 1 ≤ 1200192; omega, by show slots + 0 + 8 + 0 + 8 + 0 + 8 + 0 + 8 ≤ 5500522; omega⟩) hP hD hK hS hA [] [0, 1, 2, 3, 4, 5] rfl rfl (by decide) (by decide) (fun w13 q13 H locs hw13 hP hD hK hS => ?_)
  have hP : va_P D vwCl [(qd, .inr (1, [.ref qt, .int (nI n), rv, .int fd13])), (qt, .inl (ct, 256, .inl tx)), (qh, e13), (ql, .inr (0, [.ref qf, .int lsz9, .int lsd])), (qf, .inl (cf, 4096, .inl ff9)), (qx, .inl (cx, 256, .inl tx)), (q13, .inl (w13.1, 1, .inl w13.2))] H := hP
  have hD : va_D A [(qd, .inr (1, [.ref qt, .int (nI n), rv, .int fd13])), (qt, .inl (ct, 256, .inl tx)), (qh, e13), (ql, .inr (0, [.ref qf, .int lsz9, .int lsd])), (qf, .inl (cf, 4096, .inl ff9)), (qx, .inl (cx, 256, .inl tx)), (q13, .inl (w13.1, 1, .inl w13.2))] := hD
  have hK : va_K D vwCl [(ct, .byte), (cf, .byte), (cx, .byte), (w13.1, .byte)] s := hK
  refine let_step C0 dL_law_492 hl hR hF13 (by_1 x10 hw13) (by decide) (by omega) (by omega) hK hP hD hS (fun lsz13 ff13 H locs hK hP hD hS hR => ?_)
  refine lv_if_ne (tgt := 606) hx hb dL_law_495 (by decide) (fun c_16 => ?_) (fun c_16 => absurd c_16 (by decide))
  have hP : va_P D vwCl [(qd, .inr (1, [.ref qt, .int (nI n), rv, .int fd13])), (qt, .inl (ct, 256, .inl tx)), (qh, e13), (ql, .inr (0, [.ref qf, .int lsz13, .int lsd])), (qf, .inl (cf, 4096, .inl ff13)), (qx, .inl (cx, 256, .inl tx))] H := hP
  have hD : va_D A [(qd, .inr (1, [.ref qt, .int (nI n), rv, .int fd13])), (qt, .inl (ct, 256, .inl tx)), (qh, e13), (ql, .inr (0, [.ref qf, .int lsz13, .int lsd])), (qf, .inl (cf, 4096, .inl ff13)), (qx, .inl (cx, 256, .inl tx))] := hD
  refine W.widen (k := cells + 64) (n := slots + 16640) (by omega) (by omega) ?_
  exact K qh n tx rv e13 fd13 lsz13 lsd ff13 H locs ls ⟨hK, hP, hD, hS, hn, hR⟩ (lv_sub hl [0, 1, 2, 3, 4, 5, 6, 7, 8, 9, 10] rfl)
set_option maxHeartbeats 4000000 in
set_option maxRecDepth 100000 in
/-- act 9: an int, longs and a byte are fed -/
theorem act_9 {p : Program} {l : Launch} {e : Env} {s : State} {m : MethodId} {below : List Frame} {meth : Method} {c : Code} {b L : Nat} {xs : Nat → Int32} {A : Nat → Prop} {D : va_G} {qd qt ql qf qx : Nat} {ct cf cx : ClassId} {cells slots i : Nat} {x7 x8 x9 x10 x11 : Int32} (C0 : lwx p s m meth c b L xs A) (hce : cells + 64 ≤ 1200192) (hsl : slots + 16640 ≤ 5500522) (K : lwG p l e s m below meth c b A D qd qt ql qf qx ct cf cx (cells + 64) (slots + 16640) 606 (fun n => lwL b qd ql qx n i ++ lwL5 x7 x8 x9 x10 x11)) : lwG p l e s m below meth c b A D qd qt ql qf qx ct cf cx cells slots 500 (fun n => lwL b qd ql qx n i ++ lwL5 x7 x8 x9 x10 x11 ++ [(12, .int (nI (mdN x7 (n + 1)))), (13, .int (nI (mdN x8 (n - mdN x7 (n + 1) + 1))))]) := by
  intro qh n tx rv e0 fd lsz lsd ff H locs ls hI hl
  obtain ⟨hK, hP, hD, hS, hn, hR⟩ := hI
  obtain ⟨hx, hb, hr, hml, hown, hts, hX, hbl, hlocks, hN, hL, hA, hA9⟩ := id C0
  have hbA : ¬ A b := fun h => absurd hbl (Nat.not_lt.mpr (hA9 b h))
  have hP : va_P D vwCl [(qd, .inr (1, [.ref qt, .int (nI n), rv, .int fd])), (qt, .inl (ct, 256, .inl tx)), (qh, e0), (ql, .inr (0, [.ref qf, .int lsz, .int lsd])), (qf, .inl (cf, 4096, .inl ff)), (qx, .inl (cx, 256, .inl tx))] H := hP
  have hD : va_D A [(qd, .inr (1, [.ref qt, .int (nI n), rv, .int fd])), (qt, .inl (ct, 256, .inl tx)), (qh, e0), (ql, .inr (0, [.ref qf, .int lsz, .int lsd])), (qf, .inl (cf, 4096, .inl ff)), (qx, .inl (cx, 256, .inl tx))] := hD
  have hK : va_K D vwCl [(ct, .byte), (cf, .byte), (cx, .byte)] s := hK
  have hl : lv_has ls 16 [(0, .ref b), (1, .ref qd), (2, .ref ql), (3, .ref qx), (4, .int (nI n)), (5, .int (nI (6 * i))), (7, .int x7), (8, .int x8), (9, .int x9), (10, .int x10), (11, .int x11), (12, .int (nI (mdN x7 (n + 1)))), (13, .int (nI (mdN x8 (n - mdN x7 (n + 1) + 1))))] := hl
  refine lv_aload_n hx hb dL_law_500 rfl (lv_at hl 2 rfl) ?_
  refine lv_aload_n hx hb dL_law_501 rfl (lv_at hl 1 rfl) ?_
  refine lv_iload hx hb dL_law_502 (lv_at hl 6 rfl) ?_
  obtain ⟨r1, hr11, hr21⟩ := runRel_r hR
  refine hk_ci (wr := [(qt, .inl (ct, 256, .inl tx)), (ql, .inr (0, [.ref qf, .int lsz, .int lsd])), (qf, .inl (cf, 4096, .inl ff)), (qx, .inl (cx, 256, .inl tx))]) (va_runV (As := [.int x7]) (rest := [.ref ql]) ⟨hx, hb, hml, hown, hts⟩ (met_wo l D H.size qd qh n (.ref qt) rv e0 fd r1 x7 hn hr11) (cwV 1 hts (lw_V q236 q237 q238 q7 q239) rfl rfl rfl (by decide +kernel) ⟨Nat.le_of_ble_eq_true rfl, Nat.le_of_ble_eq_true rfl⟩) (hk_BV (hP.sub (ws' := [(qd, .inr (1, [.ref qt, .int (nI n), rv, .int fd])), (qh, e0)]) [0, 2] rfl) (hK.sub (tys' := []) [] rfl) hN (hD.sub (ws' := [(qd, .inr (1, [.ref qt, .int (nI n), rv, .int fd])), (qh, e0)]) [0, 2] (by decide) rfl) (va_recv hK hP (ci := 1) (q0 := 0) rfl rfl)) rfl rfl hl.1 rfl (lv_room (Nat.le_of_ble_eq_true rfl)) dL_law_504 ⟨by show cells + 0 ≤ 1200192; omega, by show slots + 0 ≤ 5500522; omega⟩) hP hD hK hS hA [0, 2] [1, 3, 4, 5] rfl rfl (by decide) (by decide) (fun z1 u_2 H locs hf1 hP hD hK hS => ?_)
  obtain ⟨fd1, e1⟩ := u_2
  have hP : va_P D vwCl [(qt, .inl (ct, 256, .inl tx)), (ql, .inr (0, [.ref qf, .int lsz, .int lsd])), (qf, .inl (cf, 4096, .inl ff)), (qx, .inl (cx, 256, .inl tx)), (qd, .inr (1, [.ref qt, .int (nI n), rv, .int fd1])), (qh, e1)] H := hP
  have hD : va_D A [(qt, .inl (ct, 256, .inl tx)), (ql, .inr (0, [.ref qf, .int lsz, .int lsd])), (qf, .inl (cf, 4096, .inl ff)), (qx, .inl (cx, 256, .inl tx)), (qd, .inr (1, [.ref qt, .int (nI n), rv, .int fd1])), (qh, e1)] := hD
  have hK : va_K D vwCl [(ct, .byte), (cf, .byte), (cx, .byte)] s := hK
  have hP := hP.sub (ws' := [(qd, .inr (1, [.ref qt, .int (nI n), rv, .int fd1])), (qt, .inl (ct, 256, .inl tx)), (qh, e1), (ql, .inr (0, [.ref qf, .int lsz, .int lsd])), (qf, .inl (cf, 4096, .inl ff)), (qx, .inl (cx, 256, .inl tx))]) [4, 0, 5, 1, 2, 3] rfl
  have hD := hD.sub (ws' := [(qd, .inr (1, [.ref qt, .int (nI n), rv, .int fd1])), (qt, .inl (ct, 256, .inl tx)), (qh, e1), (ql, .inr (0, [.ref qf, .int lsz, .int lsd])), (qf, .inl (cf, 4096, .inl ff)), (qx, .inl (cx, 256, .inl tx))]) [4, 0, 5, 1, 2, 3] (by decide) rfl
  have hF1 := fedL_of hr21 hf1
  refine lv_iload hx hb dL_law_507 (lv_at hl 6 rfl) ?_
  refine lv_i2l (v := (x7 : Int32).toInt64) hx hb dL_law_509 rfl ?_
  refine lv_iconst (v := 4) hx hb dL_law_510 (by decide) ?_
  refine hk_ti (y := nI 4) (rfl) ?_
  refine hk_cr (wr := [(qd, .inr (1, [.ref qt, .int (nI n), rv, .int fd1])), (qt, .inl (ct, 256, .inl tx)), (qh, e1), (ql, .inr (0, [.ref qf, .int lsz, .int lsd])), (qf, .inl (cf, 4096, .inl ff)), (qx, .inl (cx, 256, .inl tx))]) (va_runS (As := [.long ((x7 : Int32).toInt64), .int (nI 4)]) (rest := [.int z1, .ref ql]) ⟨hx, hb, hml, hown, hts⟩ (met_by l D H.size x7.toInt64 4 (by decide)) (va_cwS 2 hts (lw_S q396 q397 q6 q398) rfl rfl rfl (by decide +kernel) ⟨Nat.le_of_ble_eq_true rfl, Nat.le_of_ble_eq_true rfl⟩) (hk_BS (hP.sub (ws' := []) [] rfl) (hK.sub (tys' := []) [] rfl) hN (hD.sub (ws' := []) [] (by decide) rfl)) rfl rfl hl.1 rfl (lv_room (Nat.le_of_ble_eq_true rfl)) dL_law_511 ⟨by show cells + 0 + 1 ≤ 1200192; omega, by show slots + 0 + 8 ≤ 5500522; omega⟩) hP hD hK hS hA [] [0, 1, 2, 3, 4, 5] rfl rfl (by decide) (by decide) (fun w1 q1 H locs hw1 hP hD hK hS => ?_)
  have hP : va_P D vwCl [(qd, .inr (1, [.ref qt, .int (nI n), rv, .int fd1])), (qt, .inl (ct, 256, .inl tx)), (qh, e1), (ql, .inr (0, [.ref qf, .int lsz, .int lsd])), (qf, .inl (cf, 4096, .inl ff)), (qx, .inl (cx, 256, .inl tx)), (q1, .inl (w1.1, 4, .inl w1.2))] H := hP
  have hD : va_D A [(qd, .inr (1, [.ref qt, .int (nI n), rv, .int fd1])), (qt, .inl (ct, 256, .inl tx)), (qh, e1), (ql, .inr (0, [.ref qf, .int lsz, .int lsd])), (qf, .inl (cf, 4096, .inl ff)), (qx, .inl (cx, 256, .inl tx)), (q1, .inl (w1.1, 4, .inl w1.2))] := hD
  have hK : va_K D vwCl [(ct, .byte), (cf, .byte), (cx, .byte), (w1.1, .byte)] s := hK
  refine let_step C0 dL_law_514 hl hR hF1 (by_4 x7 hw1) (by decide) (by omega) (by omega) hK hP hD hS (fun lsz1 ff1 H locs hK hP hD hS hR => ?_)
  refine lv_if_eq (tgt := 594) hx hb dL_law_517 (by decide) (fun c_4 => absurd c_4 (by decide)) (fun c_4 => ?_)
  refine lv_aload_n hx hb dL_law_520 rfl (lv_at hl 2 rfl) ?_
  refine lv_aload_n hx hb dL_law_521 rfl (lv_at hl 1 rfl) ?_
  refine lv_iload hx hb dL_law_522 (lv_at hl 7 rfl) ?_
  refine lv_iload hx hb dL_law_524 (lv_at hl 8 rfl) ?_
  obtain ⟨r5, hr15, hr25⟩ := runRel_r hR
  refine hk_ci (wr := [(qt, .inl (ct, 256, .inl tx)), (ql, .inr (0, [.ref qf, .int lsz1, .int lsd])), (qf, .inl (cf, 4096, .inl ff1)), (qx, .inl (cx, 256, .inl tx))]) (va_runV (As := [.int x8, .int x9]) (rest := [.ref ql]) ⟨hx, hb, hml, hown, hts⟩ (met_wi l D H.size qd qh n (.ref qt) rv e1 fd1 r5 x8 x9 hn hr15) (cwV 2 hts (lw_V q249 q250 q251 q7 q252) rfl rfl rfl (by decide +kernel) ⟨Nat.le_of_ble_eq_true rfl, Nat.le_of_ble_eq_true rfl⟩) (hk_BV (hP.sub (ws' := [(qd, .inr (1, [.ref qt, .int (nI n), rv, .int fd1])), (qh, e1)]) [0, 2] rfl) (hK.sub (tys' := []) [] rfl) hN (hD.sub (ws' := [(qd, .inr (1, [.ref qt, .int (nI n), rv, .int fd1])), (qh, e1)]) [0, 2] (by decide) rfl) (va_recv hK hP (ci := 1) (q0 := 0) rfl rfl)) rfl rfl hl.1 rfl (lv_room (Nat.le_of_ble_eq_true rfl)) dL_law_526 ⟨by show cells + 0 + 1 + 0 ≤ 1200192; omega, by show slots + 0 + 8 + 0 ≤ 5500522; omega⟩) hP hD hK hS hA [0, 2] [1, 3, 4, 5] rfl rfl (by decide) (by decide) (fun z5 u_6 H locs hf5 hP hD hK hS => ?_)
  obtain ⟨fd5, e5⟩ := u_6
  have hP : va_P D vwCl [(qt, .inl (ct, 256, .inl tx)), (ql, .inr (0, [.ref qf, .int lsz1, .int lsd])), (qf, .inl (cf, 4096, .inl ff1)), (qx, .inl (cx, 256, .inl tx)), (qd, .inr (1, [.ref qt, .int (nI n), rv, .int fd5])), (qh, e5)] H := hP
  have hD : va_D A [(qt, .inl (ct, 256, .inl tx)), (ql, .inr (0, [.ref qf, .int lsz1, .int lsd])), (qf, .inl (cf, 4096, .inl ff1)), (qx, .inl (cx, 256, .inl tx)), (qd, .inr (1, [.ref qt, .int (nI n), rv, .int fd5])), (qh, e5)] := hD
  have hK : va_K D vwCl [(ct, .byte), (cf, .byte), (cx, .byte)] s := hK
  have hP := hP.sub (ws' := [(qd, .inr (1, [.ref qt, .int (nI n), rv, .int fd5])), (qt, .inl (ct, 256, .inl tx)), (qh, e5), (ql, .inr (0, [.ref qf, .int lsz1, .int lsd])), (qf, .inl (cf, 4096, .inl ff1)), (qx, .inl (cx, 256, .inl tx))]) [4, 0, 5, 1, 2, 3] rfl
  have hD := hD.sub (ws' := [(qd, .inr (1, [.ref qt, .int (nI n), rv, .int fd5])), (qt, .inl (ct, 256, .inl tx)), (qh, e5), (ql, .inr (0, [.ref qf, .int lsz1, .int lsd])), (qf, .inl (cf, 4096, .inl ff1)), (qx, .inl (cx, 256, .inl tx))]) [4, 0, 5, 1, 2, 3] (by decide) rfl
  have hF5 := fedL_of hr25 hf5
  refine lv_iload hx hb dL_law_529 (lv_at hl 7 rfl) ?_
  refine lv_iload hx hb dL_law_531 (lv_at hl 8 rfl) ?_
  refine vp_callSl (va_Run.run (va_runS (As := [.int x8, .int x9]) (rest := [.int z5, .ref ql]) ⟨hx, hb, hml, hown, hts⟩ (met_wd l D x8 x9) (va_cwS 2 hts (lw_S q410 q411 q6 q412) rfl rfl rfl (by decide +kernel) ⟨Nat.le_of_ble_eq_true rfl, Nat.le_of_ble_eq_true rfl⟩) (hk_CS (hP.sub (ws' := []) [] rfl) (hK.sub (tys' := []) [] rfl) hN) rfl rfl hl.1 rfl (lv_room (Nat.le_of_ble_eq_true rfl)) dL_law_533 ⟨by show cells + 0 + 1 + 0 + 0 ≤ 1200192; omega, by show slots + 0 + 8 + 0 + 0 ≤ 5500522; omega⟩)) (fun r_7 hr_7 => ?_)
  obtain rfl : r_7 = m_wd x8 x9 := hr_7
  refine lv_bipush (v := 8) hx hb dL_law_536 (by decide) ?_
  refine hk_ti (y := nI 8) (rfl) ?_
  refine hk_cr (wr := [(qd, .inr (1, [.ref qt, .int (nI n), rv, .int fd5])), (qt, .inl (ct, 256, .inl tx)), (qh, e5), (ql, .inr (0, [.ref qf, .int lsz1, .int lsd])), (qf, .inl (cf, 4096, .inl ff1)), (qx, .inl (cx, 256, .inl tx))]) (va_runS (As := [.long (m_wd x8 x9), .int (nI 8)]) (rest := [.int z5, .ref ql]) ⟨hx, hb, hml, hown, hts⟩ (met_by l D H.size (m_wd x8 x9) 8 (by decide)) (va_cwS 2 hts (lw_S q396 q397 q6 q398) rfl rfl rfl (by decide +kernel) ⟨Nat.le_of_ble_eq_true rfl, Nat.le_of_ble_eq_true rfl⟩) (hk_BS (hP.sub (ws' := []) [] rfl) (hK.sub (tys' := []) [] rfl) hN (hD.sub (ws' := []) [] (by decide) rfl)) rfl rfl hl.1 rfl (lv_room (Nat.le_of_ble_eq_true rfl)) dL_law_538 ⟨by show cells + 0 + 1 + 0 + 1 ≤ 1200192; omega, by show slots + 0 + 8 + 0 + 8 ≤ 5500522; omega⟩) hP hD hK hS hA [] [0, 1, 2, 3, 4, 5] rfl rfl (by decide) (by decide) (fun w5 q5 H locs hw5 hP hD hK hS => ?_)
  have hP : va_P D vwCl [(qd, .inr (1, [.ref qt, .int (nI n), rv, .int fd5])), (qt, .inl (ct, 256, .inl tx)), (qh, e5), (ql, .inr (0, [.ref qf, .int lsz1, .int lsd])), (qf, .inl (cf, 4096, .inl ff1)), (qx, .inl (cx, 256, .inl tx)), (q5, .inl (w5.1, 8, .inl w5.2))] H := hP
  have hD : va_D A [(qd, .inr (1, [.ref qt, .int (nI n), rv, .int fd5])), (qt, .inl (ct, 256, .inl tx)), (qh, e5), (ql, .inr (0, [.ref qf, .int lsz1, .int lsd])), (qf, .inl (cf, 4096, .inl ff1)), (qx, .inl (cx, 256, .inl tx)), (q5, .inl (w5.1, 8, .inl w5.2))] := hD
  have hK : va_K D vwCl [(ct, .byte), (cf, .byte), (cx, .byte), (w5.1, .byte)] s := hK
  refine let_step C0 dL_law_541 hl hR hF5 (hw5) (by decide) (by omega) (by omega) hK hP hD hS (fun lsz5 ff5 H locs hK hP hD hS hR => ?_)
  refine lv_if_eq (tgt := 594) hx hb dL_law_544 (by decide) (fun c_9 => absurd c_9 (by decide)) (fun c_9 => ?_)
  refine lv_aload_n hx hb dL_law_547 rfl (lv_at hl 2 rfl) ?_
  refine lv_aload_n hx hb dL_law_548 rfl (lv_at hl 1 rfl) ?_
  refine lv_iload hx hb dL_law_549 (lv_at hl 9 rfl) ?_
  obtain ⟨r10, hr110, hr210⟩ := runRel_r hR
  refine hk_ci (wr := [(qt, .inl (ct, 256, .inl tx)), (ql, .inr (0, [.ref qf, .int lsz5, .int lsd])), (qf, .inl (cf, 4096, .inl ff5)), (qx, .inl (cx, 256, .inl tx))]) (va_runV (As := [.int x10]) (rest := [.ref ql]) ⟨hx, hb, hml, hown, hts⟩ (met_on l D H.size qd qh n (.ref qt) rv e5 fd5 r10 x10 hn hr110) (cwV 1 hts (lw_V q225 q226 q227 q7 q228) rfl rfl rfl (by decide +kernel) ⟨Nat.le_of_ble_eq_true rfl, Nat.le_of_ble_eq_true rfl⟩) (hk_BV (hP.sub (ws' := [(qd, .inr (1, [.ref qt, .int (nI n), rv, .int fd5])), (qh, e5)]) [0, 2] rfl) (hK.sub (tys' := []) [] rfl) hN (hD.sub (ws' := [(qd, .inr (1, [.ref qt, .int (nI n), rv, .int fd5])), (qh, e5)]) [0, 2] (by decide) rfl) (va_recv hK hP (ci := 1) (q0 := 0) rfl rfl)) rfl rfl hl.1 rfl (lv_room (Nat.le_of_ble_eq_true rfl)) dL_law_551 ⟨by show cells + 0 + 1 + 0 + 1 + 0 ≤ 1200192; omega, by show slots + 0 + 8 + 0 + 8 + 0 ≤ 5500522; omega⟩) hP hD hK hS hA [0, 2] [1, 3, 4, 5] rfl rfl (by decide) (by decide) (fun z10 u_11 H locs hf10 hP hD hK hS => ?_)
  obtain ⟨fd10, e10⟩ := u_11
  have hP : va_P D vwCl [(qt, .inl (ct, 256, .inl tx)), (ql, .inr (0, [.ref qf, .int lsz5, .int lsd])), (qf, .inl (cf, 4096, .inl ff5)), (qx, .inl (cx, 256, .inl tx)), (qd, .inr (1, [.ref qt, .int (nI n), rv, .int fd10])), (qh, e10)] H := hP
  have hD : va_D A [(qt, .inl (ct, 256, .inl tx)), (ql, .inr (0, [.ref qf, .int lsz5, .int lsd])), (qf, .inl (cf, 4096, .inl ff5)), (qx, .inl (cx, 256, .inl tx)), (qd, .inr (1, [.ref qt, .int (nI n), rv, .int fd10])), (qh, e10)] := hD
  have hK : va_K D vwCl [(ct, .byte), (cf, .byte), (cx, .byte)] s := hK
  have hP := hP.sub (ws' := [(qd, .inr (1, [.ref qt, .int (nI n), rv, .int fd10])), (qt, .inl (ct, 256, .inl tx)), (qh, e10), (ql, .inr (0, [.ref qf, .int lsz5, .int lsd])), (qf, .inl (cf, 4096, .inl ff5)), (qx, .inl (cx, 256, .inl tx))]) [4, 0, 5, 1, 2, 3] rfl
  have hD := hD.sub (ws' := [(qd, .inr (1, [.ref qt, .int (nI n), rv, .int fd10])), (qt, .inl (ct, 256, .inl tx)), (qh, e10), (ql, .inr (0, [.ref qf, .int lsz5, .int lsd])), (qf, .inl (cf, 4096, .inl ff5)), (qx, .inl (cx, 256, .inl tx))]) [4, 0, 5, 1, 2, 3] (by decide) rfl
  have hF10 := fedL_of hr210 hf10
  refine lv_iload hx hb dL_law_554 (lv_at hl 9 rfl) ?_
  refine lv_i2l (v := (x10 : Int32).toInt64) hx hb dL_law_556 rfl ?_
  refine lv_iconst (v := 1) hx hb dL_law_557 (by decide) ?_
  refine hk_ti (y := nI 1) (rfl) ?_
  refine hk_cr (wr := [(qd, .inr (1, [.ref qt, .int (nI n), rv, .int fd10])), (qt, .inl (ct, 256, .inl tx)), (qh, e10), (ql, .inr (0, [.ref qf, .int lsz5, .int lsd])), (qf, .inl (cf, 4096, .inl ff5)), (qx, .inl (cx, 256, .inl tx))]) (va_runS (As := [.long ((x10 : Int32).toInt64), .int (nI 1)]) (rest := [.int z10, .ref ql]) ⟨hx, hb, hml, hown, hts⟩ (met_by l D H.size x10.toInt64 1 (by decide)) (va_cwS 2 hts (lw_S q396 q397 q6 q398) rfl rfl rfl (by decide +kernel) ⟨Nat.le_of_ble_eq_true rfl, Nat.le_of_ble_eq_true rfl⟩) (hk_BS (hP.sub (ws' := []) [] rfl) (hK.sub (tys' := []) [] rfl) hN (hD.sub (ws' := []) [] (by decide) rfl)) rfl rfl hl.1 rfl (lv_room (Nat.le_of_ble_eq_true rfl)) dL_law_558 ⟨by show cells + 0 + 1 + 0 + 1 + 0 + 1 ≤ 1200192; omega, by show slots + 0 + 8 + 0 + 8 + 0 + 8 ≤ 5500522; omega⟩) hP hD hK hS hA [] [0, 1, 2, 3, 4, 5] rfl rfl (by decide) (by decide) (fun w10 q10 H locs hw10 hP hD hK hS => ?_)
  have hP : va_P D vwCl [(qd, .inr (1, [.ref qt, .int (nI n), rv, .int fd10])), (qt, .inl (ct, 256, .inl tx)), (qh, e10), (ql, .inr (0, [.ref qf, .int lsz5, .int lsd])), (qf, .inl (cf, 4096, .inl ff5)), (qx, .inl (cx, 256, .inl tx)), (q10, .inl (w10.1, 1, .inl w10.2))] H := hP
  have hD : va_D A [(qd, .inr (1, [.ref qt, .int (nI n), rv, .int fd10])), (qt, .inl (ct, 256, .inl tx)), (qh, e10), (ql, .inr (0, [.ref qf, .int lsz5, .int lsd])), (qf, .inl (cf, 4096, .inl ff5)), (qx, .inl (cx, 256, .inl tx)), (q10, .inl (w10.1, 1, .inl w10.2))] := hD
  have hK : va_K D vwCl [(ct, .byte), (cf, .byte), (cx, .byte), (w10.1, .byte)] s := hK
  refine let_step C0 dL_law_561 hl hR hF10 (by_1 x10 hw10) (by decide) (by omega) (by omega) hK hP hD hS (fun lsz10 ff10 H locs hK hP hD hS hR => ?_)
  refine lv_if_eq (tgt := 594) hx hb dL_law_564 (by decide) (fun c_13 => absurd c_13 (by decide)) (fun c_13 => ?_)
  refine lv_aload_n hx hb dL_law_567 rfl (lv_at hl 2 rfl) ?_
  refine lv_aload_n hx hb dL_law_568 rfl (lv_at hl 1 rfl) ?_
  refine lv_iload hx hb dL_law_569 (lv_at hl 10 rfl) ?_
  refine lv_iload hx hb dL_law_571 (lv_at hl 9 rfl) ?_
  obtain ⟨r14, hr114, hr214⟩ := runRel_r hR
  refine hk_ci (wr := [(qt, .inl (ct, 256, .inl tx)), (ql, .inr (0, [.ref qf, .int lsz10, .int lsd])), (qf, .inl (cf, 4096, .inl ff10)), (qx, .inl (cx, 256, .inl tx))]) (va_runV (As := [.int x11, .int x10]) (rest := [.ref ql]) ⟨hx, hb, hml, hown, hts⟩ (met_wi l D H.size qd qh n (.ref qt) rv e10 fd10 r14 x11 x10 hn hr114) (cwV 2 hts (lw_V q249 q250 q251 q7 q252) rfl rfl rfl (by decide +kernel) ⟨Nat.le_of_ble_eq_true rfl, Nat.le_of_ble_eq_true rfl⟩) (hk_BV (hP.sub (ws' := [(qd, .inr (1, [.ref qt, .int (nI n), rv, .int fd10])), (qh, e10)]) [0, 2] rfl) (hK.sub (tys' := []) [] rfl) hN (hD.sub (ws' := [(qd, .inr (1, [.ref qt, .int (nI n), rv, .int fd10])), (qh, e10)]) [0, 2] (by decide) rfl) (va_recv hK hP (ci := 1) (q0 := 0) rfl rfl)) rfl rfl hl.1 rfl (lv_room (Nat.le_of_ble_eq_true rfl)) dL_law_573 ⟨by show cells + 0 + 1 + 0 + 1 + 0 + 1 + 0 ≤ 1200192; omega, by show slots + 0 + 8 + 0 + 8 + 0 + 8 + 0 ≤ 5500522; omega⟩) hP hD hK hS hA [0, 2] [1, 3, 4, 5] rfl rfl (by decide) (by decide) (fun z14 u_15 H locs hf14 hP hD hK hS => ?_)
  obtain ⟨fd14, e14⟩ := u_15
  have hP : va_P D vwCl [(qt, .inl (ct, 256, .inl tx)), (ql, .inr (0, [.ref qf, .int lsz10, .int lsd])), (qf, .inl (cf, 4096, .inl ff10)), (qx, .inl (cx, 256, .inl tx)), (qd, .inr (1, [.ref qt, .int (nI n), rv, .int fd14])), (qh, e14)] H := hP
  have hD : va_D A [(qt, .inl (ct, 256, .inl tx)), (ql, .inr (0, [.ref qf, .int lsz10, .int lsd])), (qf, .inl (cf, 4096, .inl ff10)), (qx, .inl (cx, 256, .inl tx)), (qd, .inr (1, [.ref qt, .int (nI n), rv, .int fd14])), (qh, e14)] := hD
  have hK : va_K D vwCl [(ct, .byte), (cf, .byte), (cx, .byte)] s := hK
  have hP := hP.sub (ws' := [(qd, .inr (1, [.ref qt, .int (nI n), rv, .int fd14])), (qt, .inl (ct, 256, .inl tx)), (qh, e14), (ql, .inr (0, [.ref qf, .int lsz10, .int lsd])), (qf, .inl (cf, 4096, .inl ff10)), (qx, .inl (cx, 256, .inl tx))]) [4, 0, 5, 1, 2, 3] rfl
  have hD := hD.sub (ws' := [(qd, .inr (1, [.ref qt, .int (nI n), rv, .int fd14])), (qt, .inl (ct, 256, .inl tx)), (qh, e14), (ql, .inr (0, [.ref qf, .int lsz10, .int lsd])), (qf, .inl (cf, 4096, .inl ff10)), (qx, .inl (cx, 256, .inl tx))]) [4, 0, 5, 1, 2, 3] (by decide) rfl
  have hF14 := fedL_of hr214 hf14
  refine lv_iload hx hb dL_law_576 (lv_at hl 10 rfl) ?_
  refine lv_iload hx hb dL_law_578 (lv_at hl 9 rfl) ?_
  refine vp_callSl (va_Run.run (va_runS (As := [.int x11, .int x10]) (rest := [.int z14, .ref ql]) ⟨hx, hb, hml, hown, hts⟩ (met_wd l D x11 x10) (va_cwS 2 hts (lw_S q410 q411 q6 q412) rfl rfl rfl (by decide +kernel) ⟨Nat.le_of_ble_eq_true rfl, Nat.le_of_ble_eq_true rfl⟩) (hk_CS (hP.sub (ws' := []) [] rfl) (hK.sub (tys' := []) [] rfl) hN) rfl rfl hl.1 rfl (lv_room (Nat.le_of_ble_eq_true rfl)) dL_law_580 ⟨by show cells + 0 + 1 + 0 + 1 + 0 + 1 + 0 + 0 ≤ 1200192; omega, by show slots + 0 + 8 + 0 + 8 + 0 + 8 + 0 + 0 ≤ 5500522; omega⟩)) (fun r_16 hr_16 => ?_)
  obtain rfl : r_16 = m_wd x11 x10 := hr_16
  refine lv_bipush (v := 8) hx hb dL_law_583 (by decide) ?_
  refine hk_ti (y := nI 8) (rfl) ?_
  refine hk_cr (wr := [(qd, .inr (1, [.ref qt, .int (nI n), rv, .int fd14])), (qt, .inl (ct, 256, .inl tx)), (qh, e14), (ql, .inr (0, [.ref qf, .int lsz10, .int lsd])), (qf, .inl (cf, 4096, .inl ff10)), (qx, .inl (cx, 256, .inl tx))]) (va_runS (As := [.long (m_wd x11 x10), .int (nI 8)]) (rest := [.int z14, .ref ql]) ⟨hx, hb, hml, hown, hts⟩ (met_by l D H.size (m_wd x11 x10) 8 (by decide)) (va_cwS 2 hts (lw_S q396 q397 q6 q398) rfl rfl rfl (by decide +kernel) ⟨Nat.le_of_ble_eq_true rfl, Nat.le_of_ble_eq_true rfl⟩) (hk_BS (hP.sub (ws' := []) [] rfl) (hK.sub (tys' := []) [] rfl) hN (hD.sub (ws' := []) [] (by decide) rfl)) rfl rfl hl.1 rfl (lv_room (Nat.le_of_ble_eq_true rfl)) dL_law_585 ⟨by show cells + 0 + 1 + 0 + 1 + 0 + 1 + 0 + 1 ≤ 1200192; omega, by show slots + 0 + 8 + 0 + 8 + 0 + 8 + 0 + 8 ≤ 5500522; omega⟩) hP hD hK hS hA [] [0, 1, 2, 3, 4, 5] rfl rfl (by decide) (by decide) (fun w14 q14 H locs hw14 hP hD hK hS => ?_)
  have hP : va_P D vwCl [(qd, .inr (1, [.ref qt, .int (nI n), rv, .int fd14])), (qt, .inl (ct, 256, .inl tx)), (qh, e14), (ql, .inr (0, [.ref qf, .int lsz10, .int lsd])), (qf, .inl (cf, 4096, .inl ff10)), (qx, .inl (cx, 256, .inl tx)), (q14, .inl (w14.1, 8, .inl w14.2))] H := hP
  have hD : va_D A [(qd, .inr (1, [.ref qt, .int (nI n), rv, .int fd14])), (qt, .inl (ct, 256, .inl tx)), (qh, e14), (ql, .inr (0, [.ref qf, .int lsz10, .int lsd])), (qf, .inl (cf, 4096, .inl ff10)), (qx, .inl (cx, 256, .inl tx)), (q14, .inl (w14.1, 8, .inl w14.2))] := hD
  have hK : va_K D vwCl [(ct, .byte), (cf, .byte), (cx, .byte), (w14.1, .byte)] s := hK
  refine let_step C0 dL_law_588 hl hR hF14 (hw14) (by decide) (by omega) (by omega) hK hP hD hS (fun lsz14 ff14 H locs hK hP hD hS hR => ?_)
  refine lv_if_ne (tgt := 606) hx hb dL_law_591 (by decide) (fun c_18 => ?_) (fun c_18 => absurd c_18 (by decide))
  have hP : va_P D vwCl [(qd, .inr (1, [.ref qt, .int (nI n), rv, .int fd14])), (qt, .inl (ct, 256, .inl tx)), (qh, e14), (ql, .inr (0, [.ref qf, .int lsz14, .int lsd])), (qf, .inl (cf, 4096, .inl ff14)), (qx, .inl (cx, 256, .inl tx))] H := hP
  have hD : va_D A [(qd, .inr (1, [.ref qt, .int (nI n), rv, .int fd14])), (qt, .inl (ct, 256, .inl tx)), (qh, e14), (ql, .inr (0, [.ref qf, .int lsz14, .int lsd])), (qf, .inl (cf, 4096, .inl ff14)), (qx, .inl (cx, 256, .inl tx))] := hD
  refine W.widen (k := cells + 64) (n := slots + 16640) (by omega) (by omega) ?_
  exact K qh n tx rv e14 fd14 lsz14 lsd ff14 H locs ls ⟨hK, hP, hD, hS, hn, hR⟩ (lv_sub hl [0, 1, 2, 3, 4, 5, 6, 7, 8, 9, 10] rfl)
set_option maxHeartbeats 4000000 in
set_option maxRecDepth 100000 in
/-- act 10: the run is closed -/
theorem act_10 {p : Program} {l : Launch} {e : Env} {s : State} {m : MethodId} {below : List Frame} {meth : Method} {c : Code} {b L : Nat} {xs : Nat → Int32} {A : Nat → Prop} {D : va_G} {qd qt ql qf qx : Nat} {ct cf cx : ClassId} {cells slots i : Nat} {x7 x8 x9 x10 x11 : Int32} (C0 : lwx p s m meth c b L xs A) (hce : cells + 64 ≤ 1200192) (hsl : slots + 16640 ≤ 5500522) (K : lwG p l e s m below meth c b A D qd qt ql qf qx ct cf cx (cells + 64) (slots + 16640) 606 (fun n => lwL b qd ql qx n i ++ lwL5 x7 x8 x9 x10 x11)) : lwG p l e s m below meth c b A D qd qt ql qf qx ct cf cx cells slots 596 (fun n => lwL b qd ql qx n i ++ lwL5 x7 x8 x9 x10 x11 ++ [(12, .int (nI (mdN x7 (n + 1)))), (13, .int (nI (mdN x8 (n - mdN x7 (n + 1) + 1))))]) := by
  intro qh n tx rv e0 fd lsz lsd ff H locs ls hI hl
  obtain ⟨hK, hP, hD, hS, hn, hR⟩ := hI
  obtain ⟨hx, hb, hr, hml, hown, hts, hX, hbl, hlocks, hN, hL, hA, hA9⟩ := id C0
  have hbA : ¬ A b := fun h => absurd hbl (Nat.not_lt.mpr (hA9 b h))
  have hP : va_P D vwCl [(qd, .inr (1, [.ref qt, .int (nI n), rv, .int fd])), (qt, .inl (ct, 256, .inl tx)), (qh, e0), (ql, .inr (0, [.ref qf, .int lsz, .int lsd])), (qf, .inl (cf, 4096, .inl ff)), (qx, .inl (cx, 256, .inl tx))] H := hP
  have hD : va_D A [(qd, .inr (1, [.ref qt, .int (nI n), rv, .int fd])), (qt, .inl (ct, 256, .inl tx)), (qh, e0), (ql, .inr (0, [.ref qf, .int lsz, .int lsd])), (qf, .inl (cf, 4096, .inl ff)), (qx, .inl (cx, 256, .inl tx))] := hD
  have hK : va_K D vwCl [(ct, .byte), (cf, .byte), (cx, .byte)] s := hK
  have hl : lv_has ls 16 [(0, .ref b), (1, .ref qd), (2, .ref ql), (3, .ref qx), (4, .int (nI n)), (5, .int (nI (6 * i))), (7, .int x7), (8, .int x8), (9, .int x9), (10, .int x10), (11, .int x11), (12, .int (nI (mdN x7 (n + 1)))), (13, .int (nI (mdN x8 (n - mdN x7 (n + 1) + 1))))] := hl
  refine lv_aload_n hx hb dL_law_596 rfl (lv_at hl 2 rfl) ?_
  refine lv_aload_n hx hb dL_law_597 rfl (lv_at hl 1 rfl) ?_
  refine hk_ci (wr := [(qt, .inl (ct, 256, .inl tx)), (qx, .inl (cx, 256, .inl tx))]) (va_runV (As := [.ref qd]) (rest := []) ⟨hx, hb, hml, hown, hts⟩ (met_cc l D H.size ql qf qd qh cf ff (.ref qt) (nI n) rv e0 fd lsz lsd hR) (cwV 1 hts (lw_V q406 q408 qs5 q6 q409) rfl rfl rfl (by decide +kernel) ⟨Nat.le_of_ble_eq_true rfl, Nat.le_of_ble_eq_true rfl⟩) (hk_BV (hP.sub (ws' := [(ql, .inr (0, [.ref qf, .int lsz, .int lsd])), (qf, .inl (cf, 4096, .inl ff)), (qd, .inr (1, [.ref qt, .int (nI n), rv, .int fd])), (qh, e0)]) [3, 4, 0, 2] rfl) (hK.sub (tys' := [(cf, .byte)]) [1] rfl) hN (hD.sub (ws' := [(ql, .inr (0, [.ref qf, .int lsz, .int lsd])), (qf, .inl (cf, 4096, .inl ff)), (qd, .inr (1, [.ref qt, .int (nI n), rv, .int fd])), (qh, e0)]) [3, 4, 0, 2] (by decide) rfl) (va_recv hK hP (ci := 0) (q0 := 3) rfl rfl)) rfl rfl hl.1 rfl (lv_room (Nat.le_of_ble_eq_true rfl)) dL_law_598 ⟨by show cells + 1 ≤ 1200192; omega, by show slots + 1 ≤ 5500522; omega⟩) hP hD hK hS hA [3, 4, 0, 2] [1, 5] rfl rfl (by decide) (by decide) (fun r_1 u H locs h_2 hP hD hK hS => ?_)
  have hP : va_P D vwCl [(qt, .inl (ct, 256, .inl tx)), (qx, .inl (cx, 256, .inl tx)), (ql, .inr (0, [.ref qf, .int (-1), .int lsd])), (qf, .inl (cf, 4096, .inl ff)), (qd, .inr (1, [.ref qt, .int (nI n), .null, .int fd])), (qh, u)] H := hP
  have hD : va_D A [(qt, .inl (ct, 256, .inl tx)), (qx, .inl (cx, 256, .inl tx)), (ql, .inr (0, [.ref qf, .int (-1), .int lsd])), (qf, .inl (cf, 4096, .inl ff)), (qd, .inr (1, [.ref qt, .int (nI n), .null, .int fd])), (qh, u)] := hD
  have hK := hK.sub (tys' := [(ct, .byte), (cf, .byte), (cx, .byte)]) [0, 1, 2] rfl
  obtain rfl : r_1 = 1 := h_2
  refine lv_if_ne (tgt := 606) hx hb dL_law_601 (by decide) (fun c_3 => ?_) (fun c_3 => absurd c_3 (by decide))
  have hP := hP.sub (ws' := [(qd, .inr (1, [.ref qt, .int (nI n), .null, .int fd])), (qt, .inl (ct, 256, .inl tx)), (qh, u), (ql, .inr (0, [.ref qf, .int (-1), .int lsd])), (qf, .inl (cf, 4096, .inl ff)), (qx, .inl (cx, 256, .inl tx))]) [4, 0, 5, 2, 3, 1] rfl
  have hD := hD.sub (ws' := [(qd, .inr (1, [.ref qt, .int (nI n), .null, .int fd])), (qt, .inl (ct, 256, .inl tx)), (qh, u), (ql, .inr (0, [.ref qf, .int (-1), .int lsd])), (qf, .inl (cf, 4096, .inl ff)), (qx, .inl (cx, 256, .inl tx))]) [4, 0, 5, 2, 3, 1] (by decide) rfl
  have hP : va_P D vwCl [(qd, .inr (1, [.ref qt, .int (nI n), .null, .int fd])), (qt, .inl (ct, 256, .inl tx)), (qh, u), (ql, .inr (0, [.ref qf, .int (-1), .int lsd])), (qf, .inl (cf, 4096, .inl ff)), (qx, .inl (cx, 256, .inl tx))] H := hP
  have hD : va_D A [(qd, .inr (1, [.ref qt, .int (nI n), .null, .int fd])), (qt, .inl (ct, 256, .inl tx)), (qh, u), (ql, .inr (0, [.ref qf, .int (-1), .int lsd])), (qf, .inl (cf, 4096, .inl ff)), (qx, .inl (cx, 256, .inl tx))] := hD
  refine W.widen (k := cells + 64) (n := slots + 16640) (by omega) (by omega) ?_
  exact K qh n tx .null u fd (-1) lsd ff H locs ls ⟨hK, hP, hD, hS, hn, (Or.inl ⟨rfl, rfl⟩)⟩ (lv_sub hl [0, 1, 2, 3, 4, 5, 6, 7, 8, 9, 10] rfl)
set_option maxHeartbeats 4000000 in
set_option maxRecDepth 100000 in
/-- act 3: the text is cut -/
theorem act_3 {p : Program} {l : Launch} {e : Env} {s : State} {m : MethodId} {below : List Frame} {meth : Method} {c : Code} {b L : Nat} {xs : Nat → Int32} {A : Nat → Prop} {D : va_G} {qd qt ql qf qx : Nat} {ct cf cx : ClassId} {cells slots i : Nat} {x7 x8 x9 x10 x11 : Int32} (C0 : lwx p s m meth c b L xs A) (hce : cells + 64 ≤ 1200192) (hsl : slots + 16640 ≤ 5500522) (K : lwG p l e s m below meth c b A D qd qt ql qf qx ct cf cx (cells + 64) (slots + 16640) 606 (fun n => lwL b qd ql qx n i ++ lwL5 x7 x8 x9 x10 x11)) : lwG p l e s m below meth c b A D qd qt ql qf qx ct cf cx cells slots 338 (fun n => lwL b qd ql qx n i ++ lwL5 x7 x8 x9 x10 x11 ++ [(12, .int (nI (mdN x7 (n + 1)))), (13, .int (nI (mdN x8 (n - mdN x7 (n + 1) + 1))))]) := by
  intro qh n tx rv e0 fd lsz lsd ff H locs ls hI hl
  obtain ⟨hK, hP, hD, hS, hn, hR⟩ := hI
  obtain ⟨hx, hb, hr, hml, hown, hts, hX, hbl, hlocks, hN, hL, hA, hA9⟩ := id C0
  have hbA : ¬ A b := fun h => absurd hbl (Nat.not_lt.mpr (hA9 b h))
  have hP : va_P D vwCl [(qd, .inr (1, [.ref qt, .int (nI n), rv, .int fd])), (qt, .inl (ct, 256, .inl tx)), (qh, e0), (ql, .inr (0, [.ref qf, .int lsz, .int lsd])), (qf, .inl (cf, 4096, .inl ff)), (qx, .inl (cx, 256, .inl tx))] H := hP
  have hD : va_D A [(qd, .inr (1, [.ref qt, .int (nI n), rv, .int fd])), (qt, .inl (ct, 256, .inl tx)), (qh, e0), (ql, .inr (0, [.ref qf, .int lsz, .int lsd])), (qf, .inl (cf, 4096, .inl ff)), (qx, .inl (cx, 256, .inl tx))] := hD
  have hK : va_K D vwCl [(ct, .byte), (cf, .byte), (cx, .byte)] s := hK
  have hl : lv_has ls 16 [(0, .ref b), (1, .ref qd), (2, .ref ql), (3, .ref qx), (4, .int (nI n)), (5, .int (nI (6 * i))), (7, .int x7), (8, .int x8), (9, .int x9), (10, .int x10), (11, .int x11), (12, .int (nI (mdN x7 (n + 1)))), (13, .int (nI (mdN x8 (n - mdN x7 (n + 1) + 1))))] := hl
  refine lv_aload_n hx hb dL_law_338 rfl (lv_at hl 1 rfl) ?_
  refine lv_iload hx hb dL_law_339 (lv_at hl 6 rfl) ?_
  refine hk_cv (wr := [(qt, .inl (ct, 256, .inl tx)), (qh, e0), (ql, .inr (0, [.ref qf, .int lsz, .int lsd])), (qf, .inl (cf, 4096, .inl ff)), (qx, .inl (cx, 256, .inl tx))]) (va_runV (As := [.int x7]) (rest := []) ⟨hx, hb, hml, hown, hts⟩ (met_tr l D H.size qd n (.ref qt) rv fd x7 hn) (cwV 1 hts (lw_V q53 q54 q55 q7 q56) rfl rfl rfl (by decide +kernel) ⟨Nat.le_of_ble_eq_true rfl, Nat.le_of_ble_eq_true rfl⟩) (hk_BV (hP.sub (ws' := [(qd, .inr (1, [.ref qt, .int (nI n), rv, .int fd]))]) [0] rfl) (hK.sub (tys' := []) [] rfl) hN (hD.sub (ws' := [(qd, .inr (1, [.ref qt, .int (nI n), rv, .int fd]))]) [0] (by decide) rfl) (va_recv hK hP (ci := 1) (q0 := 0) rfl rfl)) rfl rfl hl.1 rfl (lv_room (Nat.le_of_ble_eq_true rfl)) dL_law_341 ⟨by show cells + 0 ≤ 1200192; omega, by show slots + 0 ≤ 5500522; omega⟩) hP hD hK hS hA [0] [1, 2, 3, 4, 5] rfl rfl (by decide) (by decide) (fun u_3 H locs h_2 hP hD hK hS => ?_)
  have hP : va_P D vwCl [(qt, .inl (ct, 256, .inl tx)), (qh, e0), (ql, .inr (0, [.ref qf, .int lsz, .int lsd])), (qf, .inl (cf, 4096, .inl ff)), (qx, .inl (cx, 256, .inl tx)), (qd, .inr (1, [.ref qt, .int (nI (mdN x7 (n + 1))), rv, .int fd]))] H := hP
  have hD : va_D A [(qt, .inl (ct, 256, .inl tx)), (qh, e0), (ql, .inr (0, [.ref qf, .int lsz, .int lsd])), (qf, .inl (cf, 4096, .inl ff)), (qx, .inl (cx, 256, .inl tx)), (qd, .inr (1, [.ref qt, .int (nI (mdN x7 (n + 1))), rv, .int fd]))] := hD
  have hK : va_K D vwCl [(ct, .byte), (cf, .byte), (cx, .byte)] s := hK
  refine lv_iload hx hb dL_law_344 (lv_at hl 11 rfl) ?_
  refine lv_istore (lv' := [(4, .int (nI (mdN x7 (n + 1)))), (0, .ref b), (1, .ref qd), (2, .ref ql), (3, .ref qx), (5, .int (nI (6 * i))), (7, .int x7), (8, .int x8), (9, .int x9), (10, .int x10), (11, .int x11), (12, .int (nI (mdN x7 (n + 1)))), (13, .int (nI (mdN x8 (n - mdN x7 (n + 1) + 1))))]) hx hb dL_law_346 hl (by decide) rfl (fun ls hl => ?_)
  refine lv_goto (tgt := 606) hx hb dL_law_348 (by decide) ?_
  have hP := hP.sub (ws' := [(qd, .inr (1, [.ref qt, .int (nI (mdN x7 (n + 1))), rv, .int fd])), (qt, .inl (ct, 256, .inl tx)), (qh, e0), (ql, .inr (0, [.ref qf, .int lsz, .int lsd])), (qf, .inl (cf, 4096, .inl ff)), (qx, .inl (cx, 256, .inl tx))]) [5, 0, 1, 2, 3, 4] rfl
  have hD := hD.sub (ws' := [(qd, .inr (1, [.ref qt, .int (nI (mdN x7 (n + 1))), rv, .int fd])), (qt, .inl (ct, 256, .inl tx)), (qh, e0), (ql, .inr (0, [.ref qf, .int lsz, .int lsd])), (qf, .inl (cf, 4096, .inl ff)), (qx, .inl (cx, 256, .inl tx))]) [5, 0, 1, 2, 3, 4] (by decide) rfl
  have hP : va_P D vwCl [(qd, .inr (1, [.ref qt, .int (nI (mdN x7 (n + 1))), rv, .int fd])), (qt, .inl (ct, 256, .inl tx)), (qh, e0), (ql, .inr (0, [.ref qf, .int lsz, .int lsd])), (qf, .inl (cf, 4096, .inl ff)), (qx, .inl (cx, 256, .inl tx))] H := hP
  have hD : va_D A [(qd, .inr (1, [.ref qt, .int (nI (mdN x7 (n + 1))), rv, .int fd])), (qt, .inl (ct, 256, .inl tx)), (qh, e0), (ql, .inr (0, [.ref qf, .int lsz, .int lsd])), (qf, .inl (cf, 4096, .inl ff)), (qx, .inl (cx, 256, .inl tx))] := hD
  refine W.widen (k := cells + 64) (n := slots + 16640) (by omega) (by omega) ?_
  exact K qh (mdN x7 (n + 1)) tx rv e0 fd lsz lsd ff H locs ls ⟨hK, hP, hD, hS, Nat.le_trans (mdN_le x7 n) hn, hR⟩ (lv_sub hl [1, 2, 3, 4, 0, 5, 6, 7, 8, 9, 10] rfl)
set_option maxHeartbeats 4000000 in
set_option maxRecDepth 100000 in
/-- acts 4 and 5: a run begins -/
theorem act_4 {p : Program} {l : Launch} {e : Env} {s : State} {m : MethodId} {below : List Frame} {meth : Method} {c : Code} {b L : Nat} {xs : Nat → Int32} {A : Nat → Prop} {D : va_G} {qd qt ql qf qx : Nat} {ct cf cx : ClassId} {cells slots i : Nat} {x7 x8 x9 x10 x11 : Int32} (C0 : lwx p s m meth c b L xs A) (hce : cells + 64 ≤ 1200192) (hsl : slots + 16640 ≤ 5500522) (K : lwG p l e s m below meth c b A D qd qt ql qf qx ct cf cx (cells + 64) (slots + 16640) 606 (fun n => lwL b qd ql qx n i ++ lwL5 x7 x8 x9 x10 x11)) : lwG p l e s m below meth c b A D qd qt ql qf qx ct cf cx cells slots 351 (fun n => lwL b qd ql qx n i ++ lwL5 x7 x8 x9 x10 x11 ++ [(12, .int (nI (mdN x7 (n + 1)))), (13, .int (nI (mdN x8 (n - mdN x7 (n + 1) + 1))))]) := by
  intro qh n tx rv e0 fd lsz lsd ff H locs ls hI hl
  obtain ⟨hK, hP, hD, hS, hn, hR⟩ := hI
  obtain ⟨hx, hb, hr, hml, hown, hts, hX, hbl, hlocks, hN, hL, hA, hA9⟩ := id C0
  have hbA : ¬ A b := fun h => absurd hbl (Nat.not_lt.mpr (hA9 b h))
  have hP : va_P D vwCl [(qd, .inr (1, [.ref qt, .int (nI n), rv, .int fd])), (qt, .inl (ct, 256, .inl tx)), (qh, e0), (ql, .inr (0, [.ref qf, .int lsz, .int lsd])), (qf, .inl (cf, 4096, .inl ff)), (qx, .inl (cx, 256, .inl tx))] H := hP
  have hD : va_D A [(qd, .inr (1, [.ref qt, .int (nI n), rv, .int fd])), (qt, .inl (ct, 256, .inl tx)), (qh, e0), (ql, .inr (0, [.ref qf, .int lsz, .int lsd])), (qf, .inl (cf, 4096, .inl ff)), (qx, .inl (cx, 256, .inl tx))] := hD
  have hK : va_K D vwCl [(ct, .byte), (cf, .byte), (cx, .byte)] s := hK
  have hl : lv_has ls 16 [(0, .ref b), (1, .ref qd), (2, .ref ql), (3, .ref qx), (4, .int (nI n)), (5, .int (nI (6 * i))), (7, .int x7), (8, .int x8), (9, .int x9), (10, .int x10), (11, .int x11), (12, .int (nI (mdN x7 (n + 1)))), (13, .int (nI (mdN x8 (n - mdN x7 (n + 1) + 1))))] := hl
  refine lv_aload_n hx hb dL_law_351 rfl (lv_at hl 1 rfl) ?_
  refine lv_iload hx hb dL_law_352 (lv_at hl 6 rfl) ?_
  refine hk_cv (wr := [(qt, .inl (ct, 256, .inl tx)), (qh, e0), (ql, .inr (0, [.ref qf, .int lsz, .int lsd])), (qf, .inl (cf, 4096, .inl ff)), (qx, .inl (cx, 256, .inl tx))]) (va_runV (As := [.int x7]) (rest := []) ⟨hx, hb, hml, hown, hts⟩ (met_bg l D H.size qd (.ref qt) rv (nI n) fd x7) (cwV 1 hts (lw_V q62 q63 q64 q7 q65) rfl rfl rfl (by decide +kernel) ⟨Nat.le_of_ble_eq_true rfl, Nat.le_of_ble_eq_true rfl⟩) (hk_BV (hP.sub (ws' := [(qd, .inr (1, [.ref qt, .int (nI n), rv, .int fd]))]) [0] rfl) (hK.sub (tys' := []) [] rfl) hN (hD.sub (ws' := [(qd, .inr (1, [.ref qt, .int (nI n), rv, .int fd]))]) [0] (by decide) rfl) (va_recv hK hP (ci := 1) (q0 := 0) rfl rfl)) rfl rfl hl.1 rfl (lv_room (Nat.le_of_ble_eq_true rfl)) dL_law_354 ⟨by show cells + 2 ≤ 1200192; omega, by show slots + 7 ≤ 5500522; omega⟩) hP hD hK hS hA [0] [1, 2, 3, 4, 5] rfl rfl (by decide) (by decide) (fun q1 H locs h_2 hP hD hK hS => ?_)
  have hP : va_P D vwCl [(qt, .inl (ct, 256, .inl tx)), (qh, e0), (ql, .inr (0, [.ref qf, .int lsz, .int lsd])), (qf, .inl (cf, 4096, .inl ff)), (qx, .inl (cx, 256, .inl tx)), (qd, .inr (1, [.ref qt, .int (nI n), .ref q1, .int 0])), (q1, .inr (4, [.int x7, .long 0, .int 0, .int 0, .int 0]))] H := hP
  have hD : va_D A [(qt, .inl (ct, 256, .inl tx)), (qh, e0), (ql, .inr (0, [.ref qf, .int lsz, .int lsd])), (qf, .inl (cf, 4096, .inl ff)), (qx, .inl (cx, 256, .inl tx)), (qd, .inr (1, [.ref qt, .int (nI n), .ref q1, .int 0])), (q1, .inr (4, [.int x7, .long 0, .int 0, .int 0, .int 0]))] := hD
  have hK : va_K D vwCl [(ct, .byte), (cf, .byte), (cx, .byte)] s := hK
  refine lv_aload_n hx hb dL_law_357 rfl (lv_at hl 2 rfl) ?_
  refine lv_iconst (v := 0) hx hb dL_law_358 (by decide) ?_
  refine va_put (D := D) (ci := 0) (v := .int 0) (ty := .int) (C := RX0) (T := TX0) (N := 3) hx hb hts in_X0 tyX0 tyX0_ok nmX0 hown hK hP hD hS 2 rfl rfl 1 (by decide) (hts _ q369) (fun _ h9 => h9) rfl (by decide +kernel) rfl rfl (Nat.le_of_ble_eq_true rfl) dL_law_359 (fun H locs hP hD hS => ?_)
  have hP : va_P D vwCl [(qt, .inl (ct, 256, .inl tx)), (qh, e0), (ql, .inr (0, [.ref qf, .int 0, .int lsd])), (qf, .inl (cf, 4096, .inl ff)), (qx, .inl (cx, 256, .inl tx)), (qd, .inr (1, [.ref qt, .int (nI n), .ref q1, .int 0])), (q1, .inr (4, [.int x7, .long 0, .int 0, .int 0, .int 0]))] H := hP
  have hD : va_D A [(qt, .inl (ct, 256, .inl tx)), (qh, e0), (ql, .inr (0, [.ref qf, .int 0, .int lsd])), (qf, .inl (cf, 4096, .inl ff)), (qx, .inl (cx, 256, .inl tx)), (qd, .inr (1, [.ref qt, .int (nI n), .ref q1, .int 0])), (q1, .inr (4, [.int x7, .long 0, .int 0, .int 0, .int 0]))] := hD
  refine lv_aload_n hx hb dL_law_362 rfl (lv_at hl 2 rfl) ?_
  refine lv_iload hx hb dL_law_363 (lv_at hl 6 rfl) ?_
  refine va_put (D := D) (ci := 0) (v := .int x7) (ty := .int) (C := RX0) (T := TX0) (N := 3) hx hb hts in_X0 tyX0 tyX0_ok nmX0 hown hK hP hD hS 2 rfl rfl 2 (by decide) (hts _ q370) (fun _ h9 => h9) rfl (by decide +kernel) rfl rfl (Nat.le_of_ble_eq_true rfl) dL_law_365 (fun H locs hP hD hS => ?_)
  have hP : va_P D vwCl [(qt, .inl (ct, 256, .inl tx)), (qh, e0), (ql, .inr (0, [.ref qf, .int 0, .int x7])), (qf, .inl (cf, 4096, .inl ff)), (qx, .inl (cx, 256, .inl tx)), (qd, .inr (1, [.ref qt, .int (nI n), .ref q1, .int 0])), (q1, .inr (4, [.int x7, .long 0, .int 0, .int 0, .int 0]))] H := hP
  have hD : va_D A [(qt, .inl (ct, 256, .inl tx)), (qh, e0), (ql, .inr (0, [.ref qf, .int 0, .int x7])), (qf, .inl (cf, 4096, .inl ff)), (qx, .inl (cx, 256, .inl tx)), (qd, .inr (1, [.ref qt, .int (nI n), .ref q1, .int 0])), (q1, .inr (4, [.int x7, .long 0, .int 0, .int 0, .int 0]))] := hD
  refine lv_goto (tgt := 606) hx hb dL_law_368 (by decide) ?_
  have hP := hP.sub (ws' := [(qd, .inr (1, [.ref qt, .int (nI n), .ref q1, .int 0])), (qt, .inl (ct, 256, .inl tx)), (q1, .inr (4, [.int x7, .long 0, .int 0, .int 0, .int 0])), (ql, .inr (0, [.ref qf, .int 0, .int x7])), (qf, .inl (cf, 4096, .inl ff)), (qx, .inl (cx, 256, .inl tx))]) [5, 0, 6, 2, 3, 4] rfl
  have hD := hD.sub (ws' := [(qd, .inr (1, [.ref qt, .int (nI n), .ref q1, .int 0])), (qt, .inl (ct, 256, .inl tx)), (q1, .inr (4, [.int x7, .long 0, .int 0, .int 0, .int 0])), (ql, .inr (0, [.ref qf, .int 0, .int x7])), (qf, .inl (cf, 4096, .inl ff)), (qx, .inl (cx, 256, .inl tx))]) [5, 0, 6, 2, 3, 4] (by decide) rfl
  have hP : va_P D vwCl [(qd, .inr (1, [.ref qt, .int (nI n), .ref q1, .int 0])), (qt, .inl (ct, 256, .inl tx)), (q1, .inr (4, [.int x7, .long 0, .int 0, .int 0, .int 0])), (ql, .inr (0, [.ref qf, .int 0, .int x7])), (qf, .inl (cf, 4096, .inl ff)), (qx, .inl (cx, 256, .inl tx))] H := hP
  have hD : va_D A [(qd, .inr (1, [.ref qt, .int (nI n), .ref q1, .int 0])), (qt, .inl (ct, 256, .inl tx)), (q1, .inr (4, [.int x7, .long 0, .int 0, .int 0, .int 0])), (ql, .inr (0, [.ref qf, .int 0, .int x7])), (qf, .inl (cf, 4096, .inl ff)), (qx, .inl (cx, 256, .inl tx))] := hD
  refine W.widen (k := cells + 64) (n := slots + 16640) (by omega) (by omega) ?_
  exact K q1 n tx (.ref q1) (.inr (4, [.int x7, .long 0, .int 0, .int 0, .int 0])) 0 0 x7 ff H locs ls ⟨hK, hP, hD, hS, hn, (Or.inr ⟨0, Nat.zero_le _, rfl, rfl, rfl, Nat.zero_le _, x7, 0, 0, rfl, HS_0 x7 _⟩)⟩ (lv_sub hl [0, 1, 2, 3, 4, 5, 6, 7, 8, 9, 10] rfl)
set_option maxHeartbeats 4000000 in
set_option maxRecDepth 100000 in
/-- acts 6 and 7: a piece is fed up to sixty-four times -/
theorem act_6 {p : Program} {l : Launch} {e : Env} {s : State} {m : MethodId} {below : List Frame} {meth : Method} {c : Code} {b L : Nat} {xs : Nat → Int32} {A : Nat → Prop} {D : va_G} {qd qt ql qf qx : Nat} {ct cf cx : ClassId} {cells slots i : Nat} {x7 x8 x9 x10 x11 : Int32} (C0 : lwx p s m meth c b L xs A) (hce : cells + 64 ≤ 1200192) (hsl : slots + 16640 ≤ 5500522) (K : lwG p l e s m below meth c b A D qd qt ql qf qx ct cf cx (cells + 64) (slots + 16640) 606 (fun n => lwL b qd ql qx n i ++ lwL5 x7 x8 x9 x10 x11)) : lwG p l e s m below meth c b A D qd qt ql qf qx ct cf cx cells slots 371 (fun n => lwL b qd ql qx n i ++ lwL5 x7 x8 x9 x10 x11 ++ [(12, .int (nI (mdN x7 (n + 1)))), (13, .int (nI (mdN x8 (n - mdN x7 (n + 1) + 1))))]) := by
  intro qh n tx rv e0 fd lsz lsd ff H locs ls hI hl
  obtain ⟨hK, hP, hD, hS, hn, hR⟩ := hI
  obtain ⟨hx, hb, hr, hml, hown, hts, hX, hbl, hlocks, hN, hL, hA, hA9⟩ := id C0
  have hbA : ¬ A b := fun h => absurd hbl (Nat.not_lt.mpr (hA9 b h))
  have hP : va_P D vwCl [(qd, .inr (1, [.ref qt, .int (nI n), rv, .int fd])), (qt, .inl (ct, 256, .inl tx)), (qh, e0), (ql, .inr (0, [.ref qf, .int lsz, .int lsd])), (qf, .inl (cf, 4096, .inl ff)), (qx, .inl (cx, 256, .inl tx))] H := hP
  have hD : va_D A [(qd, .inr (1, [.ref qt, .int (nI n), rv, .int fd])), (qt, .inl (ct, 256, .inl tx)), (qh, e0), (ql, .inr (0, [.ref qf, .int lsz, .int lsd])), (qf, .inl (cf, 4096, .inl ff)), (qx, .inl (cx, 256, .inl tx))] := hD
  have hK : va_K D vwCl [(ct, .byte), (cf, .byte), (cx, .byte)] s := hK
  have hl : lv_has ls 16 [(0, .ref b), (1, .ref qd), (2, .ref ql), (3, .ref qx), (4, .int (nI n)), (5, .int (nI (6 * i))), (7, .int x7), (8, .int x8), (9, .int x9), (10, .int x10), (11, .int x11), (12, .int (nI (mdN x7 (n + 1)))), (13, .int (nI (mdN x8 (n - mdN x7 (n + 1) + 1))))] := hl
  obtain ⟨M, hM, hMv⟩ : ∃ M : Nat, M < 64 ∧ x11 &&& 63 = nI M := pk_andE x11 (m := 63) 6 (by decide)
  have hin := md_in x7 x8 n
  refine lv_iconst (v := 0) hx hb dL_law_371 (by decide) ?_
  refine lv_istore (lv' := [(15, .int 0), (0, .ref b), (1, .ref qd), (2, .ref ql), (3, .ref qx), (4, .int (nI n)), (5, .int (nI (6 * i))), (7, .int x7), (8, .int x8), (9, .int x9), (10, .int x10), (11, .int x11), (12, .int (nI (mdN x7 (n + 1)))), (13, .int (nI (mdN x8 (n - mdN x7 (n + 1) + 1))))]) hx hb dL_law_372 hl (by decide) rfl (fun ls hl => ?_)
  have loop1 : ∀ (k j : Nat), j ≤ M + 1 → M + 2 ≤ j + k → ∀ (fd : Int32) (e0 : va_E) (lsz : Int32) (ff : Nat → Int32) (H : Heap) (locs : List Loc), va_K D vwCl [(ct, .byte), (cf, .byte), (cx, .byte)] s → va_P D vwCl [(qd, .inr (1, [.ref qt, .int (nI n), rv, .int fd])), (qt, .inl (ct, 256, .inl tx)), (qh, e0), (ql, .inr (0, [.ref qf, .int lsz, .int lsd])), (qf, .inl (cf, 4096, .inl ff)), (qx, .inl (cx, 256, .inl tx))] H → va_D A [(qd, .inr (1, [.ref qt, .int (nI n), rv, .int fd])), (qt, .inl (ct, 256, .inl tx)), (qh, e0), (ql, .inr (0, [.ref qf, .int lsz, .int lsd])), (qf, .inl (cf, 4096, .inl ff)), (qx, .inl (cx, 256, .inl tx))] → va_S A s.heap H locs → runRel rv qh e0 fd lsz lsd ff → ∀ (ls : Array Slot), lv_has ls 16 [(0, .ref b), (1, .ref qd), (2, .ref ql), (3, .ref qx), (4, .int (nI n)), (5, .int (nI (6 * i))), (7, .int x7), (8, .int x8), (9, .int x9), (10, .int x10), (11, .int x11), (12, .int (nI (mdN x7 (n + 1)))), (13, .int (nI (mdN x8 (n - mdN x7 (n + 1) + 1)))), (15, .int (nI j))] → W p l e room_1 s m (#[Value.ref b] : Array Value) below meth c H locs (cells + j) (slots + 256 * j) (lw_Z below #[Value.ref b] s) (F0 m 374 ls []) := by
    intro k
    induction k with
    | zero =>
      intro j h1 h2
      exact absurd h2 (by omega)
    | succ k ih =>
      intro j hj hfu fd e0 lsz ff H locs hK hP hD hS hR ls hl
      refine lv_iload hx hb dL_law_374 (lv_at hl 13 rfl) ?_
      refine lv_iload hx hb dL_law_376 (lv_at hl 10 rfl) ?_
      refine lv_bipush (v := 63) hx hb dL_law_378 (by decide) ?_
      refine lv_iand hx hb dL_law_380 ?_
      refine hk_ti (y := nI M) (hMv) ?_
      refine lv_icmp_gt (tgt := 415) hx hb dL_law_381 (by decide) (fun c_1 => ?_) (fun c_1 => ?_)
      · refine lv_goto (tgt := 606) hx hb dL_law_415 (by decide) ?_
        have hP : va_P D vwCl [(qd, .inr (1, [.ref qt, .int (nI n), rv, .int fd])), (qt, .inl (ct, 256, .inl tx)), (qh, e0), (ql, .inr (0, [.ref qf, .int lsz, .int lsd])), (qf, .inl (cf, 4096, .inl ff)), (qx, .inl (cx, 256, .inl tx))] H := hP
        have hD : va_D A [(qd, .inr (1, [.ref qt, .int (nI n), rv, .int fd])), (qt, .inl (ct, 256, .inl tx)), (qh, e0), (ql, .inr (0, [.ref qf, .int lsz, .int lsd])), (qf, .inl (cf, 4096, .inl ff)), (qx, .inl (cx, 256, .inl tx))] := hD
        refine W.widen (k := cells + 64) (n := slots + 16640) (by omega) (by omega) ?_
        exact K qh n tx rv e0 fd lsz lsd ff H locs ls ⟨hK, hP, hD, hS, hn, hR⟩ (lv_sub hl [0, 1, 2, 3, 4, 5, 6, 7, 8, 9, 10] rfl)
      · have hjM : j ≤ M := le_of_nlt (by omega) (by omega) c_1
        refine lv_aload_n hx hb dL_law_384 rfl (lv_at hl 2 rfl) ?_
        refine lv_aload_n hx hb dL_law_385 rfl (lv_at hl 1 rfl) ?_
        refine lv_iload hx hb dL_law_386 (lv_at hl 6 rfl) ?_
        refine lv_iload hx hb dL_law_388 (lv_at hl 7 rfl) ?_
        obtain ⟨r2, hr12, hr22⟩ := runRel_r hR
        refine hk_ci (wr := [(ql, .inr (0, [.ref qf, .int lsz, .int lsd])), (qf, .inl (cf, 4096, .inl ff)), (qx, .inl (cx, 256, .inl tx))]) (va_runV (As := [.int x7, .int x8]) (rest := [.ref ql]) ⟨hx, hb, hml, hown, hts⟩ (met_fe l D H.size qd qt qh n ct tx rv e0 fd r2 x7 x8 hn hr12) (cwV 2 hts (lw_V q111 q112 q113 q7 q114) rfl rfl rfl (by decide +kernel) ⟨Nat.le_of_ble_eq_true rfl, Nat.le_of_ble_eq_true rfl⟩) (hk_BV (hP.sub (ws' := [(qd, .inr (1, [.ref qt, .int (nI n), rv, .int fd])), (qt, .inl (ct, 256, .inl tx)), (qh, e0)]) [0, 1, 2] rfl) (hK.sub (tys' := [(ct, .byte)]) [0] rfl) hN (hD.sub (ws' := [(qd, .inr (1, [.ref qt, .int (nI n), rv, .int fd])), (qt, .inl (ct, 256, .inl tx)), (qh, e0)]) [0, 1, 2] (by decide) rfl) (va_recv hK hP (ci := 1) (q0 := 0) rfl rfl)) rfl rfl hl.1 rfl (lv_room (Nat.le_of_ble_eq_true rfl)) dL_law_390 ⟨by show cells + j + 0 ≤ 1200192; omega, by show slots + 256 * j + 0 ≤ 5500522; omega⟩) hP hD hK hS hA [0, 1, 2] [3, 4, 5] rfl rfl (by decide) (by decide) (fun z2 u_3 H locs hf2 hP hD hK hS => ?_)
        obtain ⟨fd2, e2⟩ := u_3
        have hP : va_P D vwCl [(ql, .inr (0, [.ref qf, .int lsz, .int lsd])), (qf, .inl (cf, 4096, .inl ff)), (qx, .inl (cx, 256, .inl tx)), (qd, .inr (1, [.ref qt, .int (nI n), rv, .int fd2])), (qt, .inl (ct, 256, .inl tx)), (qh, e2)] H := hP
        have hD : va_D A [(ql, .inr (0, [.ref qf, .int lsz, .int lsd])), (qf, .inl (cf, 4096, .inl ff)), (qx, .inl (cx, 256, .inl tx)), (qd, .inr (1, [.ref qt, .int (nI n), rv, .int fd2])), (qt, .inl (ct, 256, .inl tx)), (qh, e2)] := hD
        have hK := hK.sub (tys' := [(ct, .byte), (cf, .byte), (cx, .byte)]) [0, 1, 2] rfl
        have hP := hP.sub (ws' := [(qd, .inr (1, [.ref qt, .int (nI n), rv, .int fd2])), (qt, .inl (ct, 256, .inl tx)), (qh, e2), (ql, .inr (0, [.ref qf, .int lsz, .int lsd])), (qf, .inl (cf, 4096, .inl ff)), (qx, .inl (cx, 256, .inl tx))]) [3, 4, 5, 0, 1, 2] rfl
        have hD := hD.sub (ws' := [(qd, .inr (1, [.ref qt, .int (nI n), rv, .int fd2])), (qt, .inl (ct, 256, .inl tx)), (qh, e2), (ql, .inr (0, [.ref qf, .int lsz, .int lsd])), (qf, .inl (cf, 4096, .inl ff)), (qx, .inl (cx, 256, .inl tx))]) [3, 4, 5, 0, 1, 2] (by decide) rfl
        have hF2 := fedL_of hr22 hf2
        refine lv_aload_n hx hb dL_law_393 rfl (lv_at hl 3 rfl) ?_
        refine lv_iload hx hb dL_law_394 (lv_at hl 11 rfl) ?_
        refine lv_iload hx hb dL_law_396 (lv_at hl 12 rfl) ?_
        refine hk_cr (wr := [(qd, .inr (1, [.ref qt, .int (nI n), rv, .int fd2])), (qt, .inl (ct, 256, .inl tx)), (qh, e2), (ql, .inr (0, [.ref qf, .int lsz, .int lsd])), (qf, .inl (cf, 4096, .inl ff))]) (va_runS (As := [.ref qx, .int (nI (mdN x7 (n + 1))), .int (nI (mdN x8 (n - mdN x7 (n + 1) + 1)))]) (rest := [.int z2, .ref ql]) ⟨hx, hb, hml, hown, hts⟩ (met_pa l D H.size qx cx tx (mdN x7 (n + 1)) (mdN x8 (n - mdN x7 (n + 1) + 1)) (by omega)) (va_cwS 3 hts (lw_S q399 q400 q6 q401) rfl rfl rfl (by decide +kernel) ⟨Nat.le_of_ble_eq_true rfl, Nat.le_of_ble_eq_true rfl⟩) (hk_BS (hP.sub (ws' := [(qx, .inl (cx, 256, .inl tx))]) [5] rfl) (hK.sub (tys' := [(cx, .byte)]) [2] rfl) hN (hD.sub (ws' := [(qx, .inl (cx, 256, .inl tx))]) [5] (by decide) rfl)) rfl rfl hl.1 rfl (lv_room (Nat.le_of_ble_eq_true rfl)) dL_law_398 ⟨by show cells + j + 0 + 1 ≤ 1200192; omega, by show slots + 256 * j + 0 + 256 ≤ 5500522; omega⟩) hP hD hK hS hA [5] [0, 1, 2, 3, 4] rfl rfl (by decide) (by decide) (fun w2 q2 H locs hw2 hP hD hK hS => ?_)
        have hP : va_P D vwCl [(qd, .inr (1, [.ref qt, .int (nI n), rv, .int fd2])), (qt, .inl (ct, 256, .inl tx)), (qh, e2), (ql, .inr (0, [.ref qf, .int lsz, .int lsd])), (qf, .inl (cf, 4096, .inl ff)), (qx, .inl (cx, 256, .inl tx)), (q2, .inl (w2.1, mdN x8 (n - mdN x7 (n + 1) + 1), .inl w2.2))] H := hP
        have hD : va_D A [(qd, .inr (1, [.ref qt, .int (nI n), rv, .int fd2])), (qt, .inl (ct, 256, .inl tx)), (qh, e2), (ql, .inr (0, [.ref qf, .int lsz, .int lsd])), (qf, .inl (cf, 4096, .inl ff)), (qx, .inl (cx, 256, .inl tx)), (q2, .inl (w2.1, mdN x8 (n - mdN x7 (n + 1) + 1), .inl w2.2))] := hD
        have hK : va_K D vwCl [(ct, .byte), (cf, .byte), (cx, .byte), (cx, .byte), (w2.1, .byte)] s := hK
        have hK := hK.sub (tys' := [(ct, .byte), (cf, .byte), (cx, .byte), (w2.1, .byte)]) [0, 1, 2, 4] rfl
        refine let_step C0 dL_law_401 hl hR hF2 (hw2) (by omega) (by omega) (by omega) hK hP hD hS (fun lsz2 ff2 H locs hK hP hD hS hR => ?_)
        refine lv_if_ne (tgt := 409) hx hb dL_law_404 (by decide) (fun c_5 => ?_) (fun c_5 => absurd c_5 (by decide))
        refine lv_iinc (v := nI (j + 1)) (lv' := [(15, .int (nI (j + 1))), (0, .ref b), (1, .ref qd), (2, .ref ql), (3, .ref qx), (4, .int (nI n)), (5, .int (nI (6 * i))), (7, .int x7), (8, .int x8), (9, .int x9), (10, .int x10), (11, .int x11), (12, .int (nI (mdN x7 (n + 1)))), (13, .int (nI (mdN x8 (n - mdN x7 (n + 1) + 1))))]) hx hb dL_law_409 hl (k := 13) rfl (nI_o1 _) (by decide) rfl (fun ls hl => ?_)
        refine lv_goto (tgt := 374) hx hb dL_law_412 (by decide) ?_
        have hl := lv_sub hl (l' := [(0, .ref b), (1, .ref qd), (2, .ref ql), (3, .ref qx), (4, .int (nI n)), (5, .int (nI (6 * i))), (7, .int x7), (8, .int x8), (9, .int x9), (10, .int x10), (11, .int x11), (12, .int (nI (mdN x7 (n + 1)))), (13, .int (nI (mdN x8 (n - mdN x7 (n + 1) + 1)))), (15, .int (nI (j + 1)))]) [1, 2, 3, 4, 5, 6, 7, 8, 9, 10, 11, 12, 13, 0] rfl
        refine W.widen (k := cells + (j + 1)) (n := slots + 256 * (j + 1)) (by omega) (by omega) ?_
        exact ih (j + 1) (by omega) (by omega) fd2 e2 lsz2 ff2 H locs hK hP hD hS hR ls hl
  have hl := lv_sub hl (l' := [(0, .ref b), (1, .ref qd), (2, .ref ql), (3, .ref qx), (4, .int (nI n)), (5, .int (nI (6 * i))), (7, .int x7), (8, .int x8), (9, .int x9), (10, .int x10), (11, .int x11), (12, .int (nI (mdN x7 (n + 1)))), (13, .int (nI (mdN x8 (n - mdN x7 (n + 1) + 1)))), (15, .int 0)]) [1, 2, 3, 4, 5, 6, 7, 8, 9, 10, 11, 12, 13, 0] rfl
  exact loop1 (M + 2) 0 (Nat.zero_le _) (by omega) fd e0 lsz ff H locs hK hP hD hS hR ls hl
set_option maxHeartbeats 4000000 in
set_option maxRecDepth 100000 in
/-- acts 0, 1, 2: four words are put -/
theorem act_0 {p : Program} {l : Launch} {e : Env} {s : State} {m : MethodId} {below : List Frame} {meth : Method} {c : Code} {b L : Nat} {xs : Nat → Int32} {A : Nat → Prop} {D : va_G} {qd qt ql qf qx : Nat} {ct cf cx : ClassId} {cells slots i : Nat} {x7 x8 x9 x10 x11 : Int32} (C0 : lwx p s m meth c b L xs A) (hce : cells + 64 ≤ 1200192) (hsl : slots + 16640 ≤ 5500522) (K : lwG p l e s m below meth c b A D qd qt ql qf qx ct cf cx (cells + 64) (slots + 16640) 606 (fun n => lwL b qd ql qx n i ++ lwL5 x7 x8 x9 x10 x11)) : lwG p l e s m below meth c b A D qd qt ql qf qx ct cf cx cells slots 224 (fun n => lwL b qd ql qx n i ++ lwL5 x7 x8 x9 x10 x11 ++ [(12, .int (nI (mdN x7 (n + 1)))), (13, .int (nI (mdN x8 (n - mdN x7 (n + 1) + 1))))]) := by
  intro qh n tx rv e0 fd lsz lsd ff H locs ls hI hl
  obtain ⟨hK, hP, hD, hS, hn, hR⟩ := hI
  obtain ⟨hx, hb, hr, hml, hown, hts, hX, hbl, hlocks, hN, hL, hA, hA9⟩ := id C0
  have hbA : ¬ A b := fun h => absurd hbl (Nat.not_lt.mpr (hA9 b h))
  have hP : va_P D vwCl [(qd, .inr (1, [.ref qt, .int (nI n), rv, .int fd])), (qt, .inl (ct, 256, .inl tx)), (qh, e0), (ql, .inr (0, [.ref qf, .int lsz, .int lsd])), (qf, .inl (cf, 4096, .inl ff)), (qx, .inl (cx, 256, .inl tx))] H := hP
  have hD : va_D A [(qd, .inr (1, [.ref qt, .int (nI n), rv, .int fd])), (qt, .inl (ct, 256, .inl tx)), (qh, e0), (ql, .inr (0, [.ref qf, .int lsz, .int lsd])), (qf, .inl (cf, 4096, .inl ff)), (qx, .inl (cx, 256, .inl tx))] := hD
  have hK : va_K D vwCl [(ct, .byte), (cf, .byte), (cx, .byte)] s := hK
  have hl : lv_has ls 16 [(0, .ref b), (1, .ref qd), (2, .ref ql), (3, .ref qx), (4, .int (nI n)), (5, .int (nI (6 * i))), (7, .int x7), (8, .int x8), (9, .int x9), (10, .int x10), (11, .int x11), (12, .int (nI (mdN x7 (n + 1)))), (13, .int (nI (mdN x8 (n - mdN x7 (n + 1) + 1))))] := hl
  refine lv_aload_n hx hb dL_law_224 rfl (lv_at hl 1 rfl) ?_
  refine lv_iload hx hb dL_law_225 (lv_at hl 6 rfl) ?_
  refine lv_iload hx hb dL_law_227 (lv_at hl 7 rfl) ?_
  refine lv_iload hx hb dL_law_229 (lv_at hl 8 rfl) ?_
  refine lv_iload hx hb dL_law_231 (lv_at hl 9 rfl) ?_
  refine hk_ci (wr := [(qh, e0), (ql, .inr (0, [.ref qf, .int lsz, .int lsd])), (qf, .inl (cf, 4096, .inl ff)), (qx, .inl (cx, 256, .inl tx))]) (va_runV (As := [.int x7, .int x8, .int x9, .int x10]) (rest := []) ⟨hx, hb, hml, hown, hts⟩ (met_pt l D H.size qd qt n ct tx rv fd x7 x8 x9 x10 hn) (cwV 4 hts (lw_V q46 q47 q48 q7 q49) rfl rfl rfl (by decide +kernel) ⟨Nat.le_of_ble_eq_true rfl, Nat.le_of_ble_eq_true rfl⟩) (hk_BV (hP.sub (ws' := [(qd, .inr (1, [.ref qt, .int (nI n), rv, .int fd])), (qt, .inl (ct, 256, .inl tx))]) [0, 1] rfl) (hK.sub (tys' := [(ct, .byte)]) [0] rfl) hN (hD.sub (ws' := [(qd, .inr (1, [.ref qt, .int (nI n), rv, .int fd])), (qt, .inl (ct, 256, .inl tx))]) [0, 1] (by decide) rfl) (va_recv hK hP (ci := 1) (q0 := 0) rfl rfl)) rfl rfl hl.1 rfl (lv_room (Nat.le_of_ble_eq_true rfl)) dL_law_233 ⟨by show cells + 0 ≤ 1200192; omega, by show slots + 0 ≤ 5500522; omega⟩) hP hD hK hS hA [0, 1] [2, 3, 4, 5] rfl rfl (by decide) (by decide) (fun z u H locs hz hP hD hK hS => ?_)
  have hP : va_P D vwCl [(qh, e0), (ql, .inr (0, [.ref qf, .int lsz, .int lsd])), (qf, .inl (cf, 4096, .inl ff)), (qx, .inl (cx, 256, .inl tx)), (qd, .inr (1, [.ref qt, .int (nI u.2), rv, .int fd])), (qt, .inl (ct, 256, .inl u.1))] H := hP
  have hD : va_D A [(qh, e0), (ql, .inr (0, [.ref qf, .int lsz, .int lsd])), (qf, .inl (cf, 4096, .inl ff)), (qx, .inl (cx, 256, .inl tx)), (qd, .inr (1, [.ref qt, .int (nI u.2), rv, .int fd])), (qt, .inl (ct, 256, .inl u.1))] := hD
  have hK := hK.sub (tys' := [(ct, .byte), (cf, .byte), (cx, .byte)]) [0, 1, 2] rfl
  rcases hz with ⟨hle, rfl, rfl⟩ | ⟨hgt, rfl, rfl⟩
  · have hP := hP.sub (ws' := [(qd, .inr (1, [.ref qt, .int (nI (n + 16)), rv, .int fd])), (qt, .inl (ct, 256, .inl (putf tx n x7 x8 x9 x10))), (qh, e0), (ql, .inr (0, [.ref qf, .int lsz, .int lsd])), (qf, .inl (cf, 4096, .inl ff)), (qx, .inl (cx, 256, .inl tx))]) [4, 5, 0, 1, 2, 3] rfl
    have hD := hD.sub (ws' := [(qd, .inr (1, [.ref qt, .int (nI (n + 16)), rv, .int fd])), (qt, .inl (ct, 256, .inl (putf tx n x7 x8 x9 x10))), (qh, e0), (ql, .inr (0, [.ref qf, .int lsz, .int lsd])), (qf, .inl (cf, 4096, .inl ff)), (qx, .inl (cx, 256, .inl tx))]) [4, 5, 0, 1, 2, 3] (by decide) rfl
    have hP : va_P D vwCl [(qd, .inr (1, [.ref qt, .int (nI (n + 16)), rv, .int fd])), (qt, .inl (ct, 256, .inl (putf tx n x7 x8 x9 x10))), (qh, e0), (ql, .inr (0, [.ref qf, .int lsz, .int lsd])), (qf, .inl (cf, 4096, .inl ff)), (qx, .inl (cx, 256, .inl tx))] H := hP
    have hD : va_D A [(qd, .inr (1, [.ref qt, .int (nI (n + 16)), rv, .int fd])), (qt, .inl (ct, 256, .inl (putf tx n x7 x8 x9 x10))), (qh, e0), (ql, .inr (0, [.ref qf, .int lsz, .int lsd])), (qf, .inl (cf, 4096, .inl ff)), (qx, .inl (cx, 256, .inl tx))] := hD
    refine lv_iload hx hb dL_law_236 (lv_at hl 4 rfl) ?_
    refine lv_sipush (v := 240) hx hb dL_law_238 (by decide) ?_
    refine lv_icmp_gt (tgt := 248) hx hb dL_law_241 (by decide) (fun c_1 => absurd c_1 (nI_nlt (a := 240) hle (by decide))) (fun c_1 => ?_)
    refine lv_iconst (v := 1) hx hb dL_law_244 (by decide) ?_
    refine lv_goto (tgt := 249) hx hb dL_law_245 (by decide) ?_
    refine lv_icmp_eq (tgt := 254) hx hb dL_law_249 (by decide) (fun c_2 => ?_) (fun c_2 => absurd (rfl) c_2)
    refine lv_iload hx hb dL_law_254 (lv_at hl 4 rfl) ?_
    refine lv_sipush (v := 240) hx hb dL_law_256 (by decide) ?_
    refine lv_icmp_le (tgt := 265) hx hb dL_law_259 (by decide) (fun c_3 => ?_) (fun c_3 => absurd (nI_le (b := 240) hle (by decide)) c_3)
    refine lv_iconst (v := 4) hx hb dL_law_265 (by decide) ?_
    refine va_newa (atype := .int) (ty := .int) (N' := 4) (a0 := (4, .inl (fun _ => 0))) hx hb (hts _ q415) rfl hK hP hD hS hA (fun _ => rfl) (by decide) (by decide +kernel) (Nat.le_of_ble_eq_true rfl) (by show cells + 0 + 1 ≤ 1200192; omega) (by show slots + 0 + 4 ≤ 5500522; omega) dL_law_266 (fun q4 c4 H hK hP hD hS => ?_)
    have hP : va_P D vwCl [(qd, .inr (1, [.ref qt, .int (nI (n + 16)), rv, .int fd])), (qt, .inl (ct, 256, .inl (putf tx n x7 x8 x9 x10))), (qh, e0), (ql, .inr (0, [.ref qf, .int lsz, .int lsd])), (qf, .inl (cf, 4096, .inl ff)), (qx, .inl (cx, 256, .inl tx)), (q4, .inl (c4, 4, .inl (fun _ => 0)))] H := hP
    have hD : va_D A [(qd, .inr (1, [.ref qt, .int (nI (n + 16)), rv, .int fd])), (qt, .inl (ct, 256, .inl (putf tx n x7 x8 x9 x10))), (qh, e0), (ql, .inr (0, [.ref qf, .int lsz, .int lsd])), (qf, .inl (cf, 4096, .inl ff)), (qx, .inl (cx, 256, .inl tx)), (q4, .inl (c4, 4, .inl (fun _ => 0)))] := hD
    have hK : va_K D vwCl [(ct, .byte), (cf, .byte), (cx, .byte), (c4, .int)] s := hK
    refine lv_dup hx hb dL_law_268 rfl ?_
    refine lv_iconst (v := 0) hx hb dL_law_269 (by decide) ?_
    refine lv_iload hx hb dL_law_270 (lv_at hl 6 rfl) ?_
    refine va_iast hx hb hK hP hD hS 6 3 rfl rfl (vp_in_nI (n := 0) (by decide) (by decide)) dL_law_272 (fun H locs hP hD hS => ?_)
    have hP : va_P D vwCl [(qd, .inr (1, [.ref qt, .int (nI (n + 16)), rv, .int fd])), (qt, .inl (ct, 256, .inl (putf tx n x7 x8 x9 x10))), (qh, e0), (ql, .inr (0, [.ref qf, .int lsz, .int lsd])), (qf, .inl (cf, 4096, .inl ff)), (qx, .inl (cx, 256, .inl tx)), (q4, .inl (c4, 4, .inl (upd (fun _ => 0) (0 : Int32).toNatClampNeg x7)))] H := hP
    have hD : va_D A [(qd, .inr (1, [.ref qt, .int (nI (n + 16)), rv, .int fd])), (qt, .inl (ct, 256, .inl (putf tx n x7 x8 x9 x10))), (qh, e0), (ql, .inr (0, [.ref qf, .int lsz, .int lsd])), (qf, .inl (cf, 4096, .inl ff)), (qx, .inl (cx, 256, .inl tx)), (q4, .inl (c4, 4, .inl (upd (fun _ => 0) (0 : Int32).toNatClampNeg x7)))] := hD
    rw [show upd (fun _ => 0) (0 : Int32).toNatClampNeg x7 = upd (fun _ => 0) 0 x7 from upd_cl (a := 0) (by decide) rfl] at hP hD
    have hP : va_P D vwCl [(qd, .inr (1, [.ref qt, .int (nI (n + 16)), rv, .int fd])), (qt, .inl (ct, 256, .inl (putf tx n x7 x8 x9 x10))), (qh, e0), (ql, .inr (0, [.ref qf, .int lsz, .int lsd])), (qf, .inl (cf, 4096, .inl ff)), (qx, .inl (cx, 256, .inl tx)), (q4, .inl (c4, 4, .inl (upd (fun _ => 0) 0 x7)))] H := hP
    have hD : va_D A [(qd, .inr (1, [.ref qt, .int (nI (n + 16)), rv, .int fd])), (qt, .inl (ct, 256, .inl (putf tx n x7 x8 x9 x10))), (qh, e0), (ql, .inr (0, [.ref qf, .int lsz, .int lsd])), (qf, .inl (cf, 4096, .inl ff)), (qx, .inl (cx, 256, .inl tx)), (q4, .inl (c4, 4, .inl (upd (fun _ => 0) 0 x7)))] := hD
    refine lv_dup hx hb dL_law_273 rfl ?_
    refine lv_iconst (v := 1) hx hb dL_law_274 (by decide) ?_
    refine lv_iload hx hb dL_law_275 (lv_at hl 7 rfl) ?_
    refine va_iast hx hb hK hP hD hS 6 3 rfl rfl (vp_in_nI (n := 1) (by decide) (by decide)) dL_law_277 (fun H locs hP hD hS => ?_)
    have hP : va_P D vwCl [(qd, .inr (1, [.ref qt, .int (nI (n + 16)), rv, .int fd])), (qt, .inl (ct, 256, .inl (putf tx n x7 x8 x9 x10))), (qh, e0), (ql, .inr (0, [.ref qf, .int lsz, .int lsd])), (qf, .inl (cf, 4096, .inl ff)), (qx, .inl (cx, 256, .inl tx)), (q4, .inl (c4, 4, .inl (upd (upd (fun _ => 0) 0 x7) (1 : Int32).toNatClampNeg x8)))] H := hP
    have hD : va_D A [(qd, .inr (1, [.ref qt, .int (nI (n + 16)), rv, .int fd])), (qt, .inl (ct, 256, .inl (putf tx n x7 x8 x9 x10))), (qh, e0), (ql, .inr (0, [.ref qf, .int lsz, .int lsd])), (qf, .inl (cf, 4096, .inl ff)), (qx, .inl (cx, 256, .inl tx)), (q4, .inl (c4, 4, .inl (upd (upd (fun _ => 0) 0 x7) (1 : Int32).toNatClampNeg x8)))] := hD
    rw [show upd (upd (fun _ => 0) 0 x7) (1 : Int32).toNatClampNeg x8 = upd (upd (fun _ => 0) 0 x7) 1 x8 from upd_cl (a := 1) (by decide) rfl] at hP hD
    have hP : va_P D vwCl [(qd, .inr (1, [.ref qt, .int (nI (n + 16)), rv, .int fd])), (qt, .inl (ct, 256, .inl (putf tx n x7 x8 x9 x10))), (qh, e0), (ql, .inr (0, [.ref qf, .int lsz, .int lsd])), (qf, .inl (cf, 4096, .inl ff)), (qx, .inl (cx, 256, .inl tx)), (q4, .inl (c4, 4, .inl (upd (upd (fun _ => 0) 0 x7) 1 x8)))] H := hP
    have hD : va_D A [(qd, .inr (1, [.ref qt, .int (nI (n + 16)), rv, .int fd])), (qt, .inl (ct, 256, .inl (putf tx n x7 x8 x9 x10))), (qh, e0), (ql, .inr (0, [.ref qf, .int lsz, .int lsd])), (qf, .inl (cf, 4096, .inl ff)), (qx, .inl (cx, 256, .inl tx)), (q4, .inl (c4, 4, .inl (upd (upd (fun _ => 0) 0 x7) 1 x8)))] := hD
    refine lv_dup hx hb dL_law_278 rfl ?_
    refine lv_iconst (v := 2) hx hb dL_law_279 (by decide) ?_
    refine lv_iload hx hb dL_law_280 (lv_at hl 8 rfl) ?_
    refine va_iast hx hb hK hP hD hS 6 3 rfl rfl (vp_in_nI (n := 2) (by decide) (by decide)) dL_law_282 (fun H locs hP hD hS => ?_)
    have hP : va_P D vwCl [(qd, .inr (1, [.ref qt, .int (nI (n + 16)), rv, .int fd])), (qt, .inl (ct, 256, .inl (putf tx n x7 x8 x9 x10))), (qh, e0), (ql, .inr (0, [.ref qf, .int lsz, .int lsd])), (qf, .inl (cf, 4096, .inl ff)), (qx, .inl (cx, 256, .inl tx)), (q4, .inl (c4, 4, .inl (upd (upd (upd (fun _ => 0) 0 x7) 1 x8) (2 : Int32).toNatClampNeg x9)))] H := hP
    have hD : va_D A [(qd, .inr (1, [.ref qt, .int (nI (n + 16)), rv, .int fd])), (qt, .inl (ct, 256, .inl (putf tx n x7 x8 x9 x10))), (qh, e0), (ql, .inr (0, [.ref qf, .int lsz, .int lsd])), (qf, .inl (cf, 4096, .inl ff)), (qx, .inl (cx, 256, .inl tx)), (q4, .inl (c4, 4, .inl (upd (upd (upd (fun _ => 0) 0 x7) 1 x8) (2 : Int32).toNatClampNeg x9)))] := hD
    rw [show upd (upd (upd (fun _ => 0) 0 x7) 1 x8) (2 : Int32).toNatClampNeg x9 = upd (upd (upd (fun _ => 0) 0 x7) 1 x8) 2 x9 from upd_cl (a := 2) (by decide) rfl] at hP hD
    have hP : va_P D vwCl [(qd, .inr (1, [.ref qt, .int (nI (n + 16)), rv, .int fd])), (qt, .inl (ct, 256, .inl (putf tx n x7 x8 x9 x10))), (qh, e0), (ql, .inr (0, [.ref qf, .int lsz, .int lsd])), (qf, .inl (cf, 4096, .inl ff)), (qx, .inl (cx, 256, .inl tx)), (q4, .inl (c4, 4, .inl (upd (upd (upd (fun _ => 0) 0 x7) 1 x8) 2 x9)))] H := hP
    have hD : va_D A [(qd, .inr (1, [.ref qt, .int (nI (n + 16)), rv, .int fd])), (qt, .inl (ct, 256, .inl (putf tx n x7 x8 x9 x10))), (qh, e0), (ql, .inr (0, [.ref qf, .int lsz, .int lsd])), (qf, .inl (cf, 4096, .inl ff)), (qx, .inl (cx, 256, .inl tx)), (q4, .inl (c4, 4, .inl (upd (upd (upd (fun _ => 0) 0 x7) 1 x8) 2 x9)))] := hD
    refine lv_dup hx hb dL_law_283 rfl ?_
    refine lv_iconst (v := 3) hx hb dL_law_284 (by decide) ?_
    refine lv_iload hx hb dL_law_285 (lv_at hl 9 rfl) ?_
    refine va_iast hx hb hK hP hD hS 6 3 rfl rfl (vp_in_nI (n := 3) (by decide) (by decide)) dL_law_287 (fun H locs hP hD hS => ?_)
    have hP : va_P D vwCl [(qd, .inr (1, [.ref qt, .int (nI (n + 16)), rv, .int fd])), (qt, .inl (ct, 256, .inl (putf tx n x7 x8 x9 x10))), (qh, e0), (ql, .inr (0, [.ref qf, .int lsz, .int lsd])), (qf, .inl (cf, 4096, .inl ff)), (qx, .inl (cx, 256, .inl tx)), (q4, .inl (c4, 4, .inl (upd (upd (upd (upd (fun _ => 0) 0 x7) 1 x8) 2 x9) (3 : Int32).toNatClampNeg x10)))] H := hP
    have hD : va_D A [(qd, .inr (1, [.ref qt, .int (nI (n + 16)), rv, .int fd])), (qt, .inl (ct, 256, .inl (putf tx n x7 x8 x9 x10))), (qh, e0), (ql, .inr (0, [.ref qf, .int lsz, .int lsd])), (qf, .inl (cf, 4096, .inl ff)), (qx, .inl (cx, 256, .inl tx)), (q4, .inl (c4, 4, .inl (upd (upd (upd (upd (fun _ => 0) 0 x7) 1 x8) 2 x9) (3 : Int32).toNatClampNeg x10)))] := hD
    rw [show upd (upd (upd (upd (fun _ => 0) 0 x7) 1 x8) 2 x9) (3 : Int32).toNatClampNeg x10 = upd (upd (upd (upd (fun _ => 0) 0 x7) 1 x8) 2 x9) 3 x10 from upd_cl (a := 3) (by decide) rfl] at hP hD
    have hP : va_P D vwCl [(qd, .inr (1, [.ref qt, .int (nI (n + 16)), rv, .int fd])), (qt, .inl (ct, 256, .inl (putf tx n x7 x8 x9 x10))), (qh, e0), (ql, .inr (0, [.ref qf, .int lsz, .int lsd])), (qf, .inl (cf, 4096, .inl ff)), (qx, .inl (cx, 256, .inl tx)), (q4, .inl (c4, 4, .inl (upd (upd (upd (upd (fun _ => 0) 0 x7) 1 x8) 2 x9) 3 x10)))] H := hP
    have hD : va_D A [(qd, .inr (1, [.ref qt, .int (nI (n + 16)), rv, .int fd])), (qt, .inl (ct, 256, .inl (putf tx n x7 x8 x9 x10))), (qh, e0), (ql, .inr (0, [.ref qf, .int lsz, .int lsd])), (qf, .inl (cf, 4096, .inl ff)), (qx, .inl (cx, 256, .inl tx)), (q4, .inl (c4, 4, .inl (upd (upd (upd (upd (fun _ => 0) 0 x7) 1 x8) 2 x9) 3 x10)))] := hD
    have hP : va_P D vwCl [(qd, .inr (1, [.ref qt, .int (nI (n + 16)), rv, .int fd])), (qt, .inl (ct, 256, .inl (putf tx n x7 x8 x9 x10))), (qh, e0), (ql, .inr (0, [.ref qf, .int lsz, .int lsd])), (qf, .inl (cf, 4096, .inl ff)), (qx, .inl (cx, 256, .inl tx)), (q4, .inl (c4, 4, .inl (four x7 x8 x9 x10)))] H := hP
    have hD : va_D A [(qd, .inr (1, [.ref qt, .int (nI (n + 16)), rv, .int fd])), (qt, .inl (ct, 256, .inl (putf tx n x7 x8 x9 x10))), (qh, e0), (ql, .inr (0, [.ref qf, .int lsz, .int lsd])), (qf, .inl (cf, 4096, .inl ff)), (qx, .inl (cx, 256, .inl tx)), (q4, .inl (c4, 4, .inl (four x7 x8 x9 x10)))] := hD
    refine lv_astore (lv' := [(14, .ref q4), (0, .ref b), (1, .ref qd), (2, .ref ql), (3, .ref qx), (4, .int (nI n)), (5, .int (nI (6 * i))), (7, .int x7), (8, .int x8), (9, .int x9), (10, .int x10), (11, .int x11), (12, .int (nI (mdN x7 (n + 1)))), (13, .int (nI (mdN x8 (n - mdN x7 (n + 1) + 1))))]) hx hb dL_law_288 hl (by decide) rfl (fun ls hl => ?_)
    refine lv_iconst (v := 0) hx hb dL_law_290 (by decide) ?_
    refine lv_istore (lv' := [(15, .int 0), (14, .ref q4), (0, .ref b), (1, .ref qd), (2, .ref ql), (3, .ref qx), (4, .int (nI n)), (5, .int (nI (6 * i))), (7, .int x7), (8, .int x8), (9, .int x9), (10, .int x10), (11, .int x11), (12, .int (nI (mdN x7 (n + 1)))), (13, .int (nI (mdN x8 (n - mdN x7 (n + 1) + 1))))]) hx hb dL_law_291 hl (by decide) rfl (fun ls hl => ?_)
    have hl := lv_sub hl (l' := [(0, .ref b), (1, .ref qd), (2, .ref ql), (3, .ref qx), (4, .int (nI n)), (5, .int (nI (6 * i))), (7, .int x7), (8, .int x8), (9, .int x9), (10, .int x10), (11, .int x11), (14, .ref q4), (15, .int 0)]) [2, 3, 4, 5, 6, 7, 8, 9, 10, 11, 12, 1, 0] rfl
    refine W.widen (k := cells + 1) (n := slots + 4) (by omega) (by omega) ?_
    have loop1 : ∀ (i9 k : Nat), k ≤ 16 → 17 ≤ k + i9 → ∀ (H : Heap) (locs : List Loc), va_P D vwCl [(qd, .inr (1, [.ref qt, .int (nI (n + 16)), rv, .int fd])), (qt, .inl (ct, 256, .inl (putf tx n x7 x8 x9 x10))), (qh, e0), (ql, .inr (0, [.ref qf, .int lsz, .int lsd])), (qf, .inl (cf, 4096, .inl ff)), (qx, .inl (cx, 256, .inl (lwf tx n (four x7 x8 x9 x10) k))), (q4, .inl (c4, 4, .inl (four x7 x8 x9 x10)))] H → va_D A [(qd, .inr (1, [.ref qt, .int (nI (n + 16)), rv, .int fd])), (qt, .inl (ct, 256, .inl (putf tx n x7 x8 x9 x10))), (qh, e0), (ql, .inr (0, [.ref qf, .int lsz, .int lsd])), (qf, .inl (cf, 4096, .inl ff)), (qx, .inl (cx, 256, .inl (lwf tx n (four x7 x8 x9 x10) k))), (q4, .inl (c4, 4, .inl (four x7 x8 x9 x10)))] → va_S A s.heap H locs → ∀ (ls : Array Slot), lv_has ls 16 [(0, .ref b), (1, .ref qd), (2, .ref ql), (3, .ref qx), (4, .int (nI n)), (5, .int (nI (6 * i))), (7, .int x7), (8, .int x8), (9, .int x9), (10, .int x10), (11, .int x11), (14, .ref q4), (15, .int (nI k))] → W p l e room_1 s m (#[Value.ref b] : Array Value) below meth c H locs (cells + 1) (slots + 4) (lw_Z below #[Value.ref b] s) (F0 m 293 ls []) := by
      intro i9
      induction i9 with
      | zero =>
        intro k h1 h2
        exact absurd h2 (by omega)
      | succ i9 ih =>
        intro k hk hfu H locs hP hD hS ls hl
        refine lv_iload hx hb dL_law_293 (lv_at hl 12 rfl) ?_
        refine lv_bipush (v := 16) hx hb dL_law_295 (by decide) ?_
        refine lv_icmp_ge (tgt := 332) hx hb dL_law_297 (by decide) (fun c_4 => ?_) (fun c_4 => ?_)
        · have hk5 : k = 16 := by have h9 := le_of_nI (a := 16) (by decide) (by omega) c_4; omega
          rw [hk5, lwf_four] at hP hD
          refine lv_iinc (v := nI (n + 16)) (lv' := [(4, .int (nI (n + 16))), (0, .ref b), (1, .ref qd), (2, .ref ql), (3, .ref qx), (5, .int (nI (6 * i))), (7, .int x7), (8, .int x8), (9, .int x9), (10, .int x10), (11, .int x11), (14, .ref q4), (15, .int (nI k))]) hx hb dL_law_332 hl (k := 4) rfl (nI_o16 _) (by decide) rfl (fun ls hl => ?_)
          refine lv_goto (tgt := 606) hx hb dL_law_335 (by decide) ?_
          have hK := hK.sub (tys' := [(ct, .byte), (cf, .byte), (cx, .byte)]) [0, 1, 2] rfl
          have hP := hP.sub (ws' := [(qd, .inr (1, [.ref qt, .int (nI (n + 16)), rv, .int fd])), (qt, .inl (ct, 256, .inl (putf tx n x7 x8 x9 x10))), (qh, e0), (ql, .inr (0, [.ref qf, .int lsz, .int lsd])), (qf, .inl (cf, 4096, .inl ff)), (qx, .inl (cx, 256, .inl (putf tx n x7 x8 x9 x10)))]) [0, 1, 2, 3, 4, 5] rfl
          have hD := hD.sub (ws' := [(qd, .inr (1, [.ref qt, .int (nI (n + 16)), rv, .int fd])), (qt, .inl (ct, 256, .inl (putf tx n x7 x8 x9 x10))), (qh, e0), (ql, .inr (0, [.ref qf, .int lsz, .int lsd])), (qf, .inl (cf, 4096, .inl ff)), (qx, .inl (cx, 256, .inl (putf tx n x7 x8 x9 x10)))]) [0, 1, 2, 3, 4, 5] (by decide) rfl
          have hP : va_P D vwCl [(qd, .inr (1, [.ref qt, .int (nI (n + 16)), rv, .int fd])), (qt, .inl (ct, 256, .inl (putf tx n x7 x8 x9 x10))), (qh, e0), (ql, .inr (0, [.ref qf, .int lsz, .int lsd])), (qf, .inl (cf, 4096, .inl ff)), (qx, .inl (cx, 256, .inl (putf tx n x7 x8 x9 x10)))] H := hP
          have hD : va_D A [(qd, .inr (1, [.ref qt, .int (nI (n + 16)), rv, .int fd])), (qt, .inl (ct, 256, .inl (putf tx n x7 x8 x9 x10))), (qh, e0), (ql, .inr (0, [.ref qf, .int lsz, .int lsd])), (qf, .inl (cf, 4096, .inl ff)), (qx, .inl (cx, 256, .inl (putf tx n x7 x8 x9 x10)))] := hD
          refine W.widen (k := cells + 64) (n := slots + 16640) (by omega) (by omega) ?_
          exact K qh (n + 16) (putf tx n x7 x8 x9 x10) rv e0 fd lsz lsd ff H locs ls ⟨hK, hP, hD, hS, by omega, hR⟩ (lv_sub hl [1, 2, 3, 4, 0, 5, 6, 7, 8, 9, 10] rfl)
        · have hk5 : k < 16 := lt_of_nle (a := 16) (by decide) (by omega) c_4
          refine lv_aload_n hx hb dL_law_300 rfl (lv_at hl 3 rfl) ?_
          refine lv_iload hx hb dL_law_301 (lv_at hl 4 rfl) ?_
          refine lv_iload hx hb dL_law_303 (lv_at hl 12 rfl) ?_
          refine lv_iadd hx hb dL_law_305 ?_
          refine hk_ti (y := nI (n + k)) (nI_add _ _) ?_
          refine lv_aload hx hb dL_law_306 (lv_at hl 11 rfl) ?_
          refine lv_iload hx hb dL_law_308 (lv_at hl 12 rfl) ?_
          refine lv_iconst (v := 4) hx hb dL_law_310 (by decide) ?_
          refine lv_idiv hx hb dL_law_311 (by decide) ?_
          refine hk_ti (y := nI (k / 4)) (pk_div (d := 4) (by omega) (by decide) (by decide)) ?_
          refine va_iald hx hb hK hP 6 3 rfl rfl (vp_in_nI (by omega) (by decide)) dL_law_312 ?_
          refine hk_ti (y := (four x7 x8 x9 x10) (k / 4)) (by rw [nI_clamp (by omega)]) ?_
          refine lv_bipush (v := 24) hx hb dL_law_313 (by decide) ?_
          refine lv_iload hx hb dL_law_315 (lv_at hl 12 rfl) ?_
          refine lv_iconst (v := 4) hx hb dL_law_317 (by decide) ?_
          refine lv_irem hx hb dL_law_318 (by decide) ?_
          refine hk_ti (y := nI (k % 4)) (pk_rem (d := 4) (by omega) (by decide) (by decide)) ?_
          refine lv_bipush (v := 8) hx hb dL_law_319 (by decide) ?_
          refine lv_imul hx hb dL_law_321 ?_
          refine hk_ti (y := nI (k % 4 * 8)) (pk_mul (k % 4) 8) ?_
          refine lv_isub hx hb dL_law_322 ?_
          refine hk_ti (y := nI (24 - k % 4 * 8)) (pk_sub (a := 24) (by omega)) ?_
          refine lv_ishr hx hb dL_law_323 ?_
          refine lv_i2b (v := (((four x7 x8 x9 x10) (k / 4)) >>> ((nI (24 - k % 4 * 8)) &&& 31) : Int32).toInt8.toInt32) hx hb dL_law_324 rfl ?_
          refine va_bast hx hb hK hP hD hS 5 2 rfl rfl (vp_in_nI (by omega) (by omega)) dL_law_325 (fun H locs hP hD hS => ?_)
          have hP : va_P D vwCl [(qd, .inr (1, [.ref qt, .int (nI (n + 16)), rv, .int fd])), (qt, .inl (ct, 256, .inl (putf tx n x7 x8 x9 x10))), (qh, e0), (ql, .inr (0, [.ref qf, .int lsz, .int lsd])), (qf, .inl (cf, 4096, .inl ff)), (qx, .inl (cx, 256, .inl (upd (lwf tx n (four x7 x8 x9 x10) k) (nI (n + k) : Int32).toNatClampNeg (vp_nar .byte ((((four x7 x8 x9 x10) (k / 4)) >>> ((nI (24 - k % 4 * 8)) &&& 31) : Int32).toInt8.toInt32))))), (q4, .inl (c4, 4, .inl (four x7 x8 x9 x10)))] H := hP
          have hD : va_D A [(qd, .inr (1, [.ref qt, .int (nI (n + 16)), rv, .int fd])), (qt, .inl (ct, 256, .inl (putf tx n x7 x8 x9 x10))), (qh, e0), (ql, .inr (0, [.ref qf, .int lsz, .int lsd])), (qf, .inl (cf, 4096, .inl ff)), (qx, .inl (cx, 256, .inl (upd (lwf tx n (four x7 x8 x9 x10) k) (nI (n + k) : Int32).toNatClampNeg (vp_nar .byte ((((four x7 x8 x9 x10) (k / 4)) >>> ((nI (24 - k % 4 * 8)) &&& 31) : Int32).toInt8.toInt32))))), (q4, .inl (c4, 4, .inl (four x7 x8 x9 x10)))] := hD
          rw [show upd (lwf tx n (four x7 x8 x9 x10) k) (nI (n + k) : Int32).toNatClampNeg (vp_nar .byte ((((four x7 x8 x9 x10) (k / 4)) >>> ((nI (24 - k % 4 * 8)) &&& 31) : Int32).toInt8.toInt32)) = lwf tx n (four x7 x8 x9 x10) (k + 1) from upd_cl (by omega) rfl] at hP hD
          have hP : va_P D vwCl [(qd, .inr (1, [.ref qt, .int (nI (n + 16)), rv, .int fd])), (qt, .inl (ct, 256, .inl (putf tx n x7 x8 x9 x10))), (qh, e0), (ql, .inr (0, [.ref qf, .int lsz, .int lsd])), (qf, .inl (cf, 4096, .inl ff)), (qx, .inl (cx, 256, .inl (lwf tx n (four x7 x8 x9 x10) (k + 1)))), (q4, .inl (c4, 4, .inl (four x7 x8 x9 x10)))] H := hP
          have hD : va_D A [(qd, .inr (1, [.ref qt, .int (nI (n + 16)), rv, .int fd])), (qt, .inl (ct, 256, .inl (putf tx n x7 x8 x9 x10))), (qh, e0), (ql, .inr (0, [.ref qf, .int lsz, .int lsd])), (qf, .inl (cf, 4096, .inl ff)), (qx, .inl (cx, 256, .inl (lwf tx n (four x7 x8 x9 x10) (k + 1)))), (q4, .inl (c4, 4, .inl (four x7 x8 x9 x10)))] := hD
          refine lv_iinc (v := nI (k + 1)) (lv' := [(15, .int (nI (k + 1))), (0, .ref b), (1, .ref qd), (2, .ref ql), (3, .ref qx), (4, .int (nI n)), (5, .int (nI (6 * i))), (7, .int x7), (8, .int x8), (9, .int x9), (10, .int x10), (11, .int x11), (14, .ref q4)]) hx hb dL_law_326 hl (k := 12) rfl (nI_o1 _) (by decide) rfl (fun ls hl => ?_)
          refine lv_goto (tgt := 293) hx hb dL_law_329 (by decide) ?_
          have hl := lv_sub hl (l' := [(0, .ref b), (1, .ref qd), (2, .ref ql), (3, .ref qx), (4, .int (nI n)), (5, .int (nI (6 * i))), (7, .int x7), (8, .int x8), (9, .int x9), (10, .int x10), (11, .int x11), (14, .ref q4), (15, .int (nI (k + 1)))]) [1, 2, 3, 4, 5, 6, 7, 8, 9, 10, 11, 12, 0] rfl
          exact ih (k + 1) (by omega) (by omega) H locs hP hD hS ls hl
    exact loop1 17 0 (Nat.zero_le _) (by decide) H locs hP hD hS ls hl
  · have hP : va_P D vwCl [(qh, e0), (ql, .inr (0, [.ref qf, .int lsz, .int lsd])), (qf, .inl (cf, 4096, .inl ff)), (qx, .inl (cx, 256, .inl tx)), (qd, .inr (1, [.ref qt, .int (nI n), rv, .int fd])), (qt, .inl (ct, 256, .inl tx))] H := hP
    have hD : va_D A [(qh, e0), (ql, .inr (0, [.ref qf, .int lsz, .int lsd])), (qf, .inl (cf, 4096, .inl ff)), (qx, .inl (cx, 256, .inl tx)), (qd, .inr (1, [.ref qt, .int (nI n), rv, .int fd])), (qt, .inl (ct, 256, .inl tx))] := hD
    refine lv_iload hx hb dL_law_236 (lv_at hl 4 rfl) ?_
    refine lv_sipush (v := 240) hx hb dL_law_238 (by decide) ?_
    refine lv_icmp_gt (tgt := 248) hx hb dL_law_241 (by decide) (fun c_5 => ?_) (fun c_5 => absurd (nI_lt (a := 240) hgt (by omega)) c_5)
    refine lv_iconst (v := 0) hx hb dL_law_248 (by decide) ?_
    refine lv_icmp_eq (tgt := 254) hx hb dL_law_249 (by decide) (fun c_6 => ?_) (fun c_6 => absurd (rfl) c_6)
    refine lv_iload hx hb dL_law_254 (lv_at hl 4 rfl) ?_
    refine lv_sipush (v := 240) hx hb dL_law_256 (by decide) ?_
    refine lv_icmp_le (tgt := 265) hx hb dL_law_259 (by decide) (fun c_7 => absurd c_7 (by have h9 := fun q : nI n ≤ nI 240 => Nat.not_lt.mpr (le_of_nI (by omega) (by decide) q) hgt; exact h9)) (fun c_7 => ?_)
    refine lv_goto (tgt := 606) hx hb dL_law_262 (by decide) ?_
    have hP := hP.sub (ws' := [(qd, .inr (1, [.ref qt, .int (nI n), rv, .int fd])), (qt, .inl (ct, 256, .inl tx)), (qh, e0), (ql, .inr (0, [.ref qf, .int lsz, .int lsd])), (qf, .inl (cf, 4096, .inl ff)), (qx, .inl (cx, 256, .inl tx))]) [4, 5, 0, 1, 2, 3] rfl
    have hD := hD.sub (ws' := [(qd, .inr (1, [.ref qt, .int (nI n), rv, .int fd])), (qt, .inl (ct, 256, .inl tx)), (qh, e0), (ql, .inr (0, [.ref qf, .int lsz, .int lsd])), (qf, .inl (cf, 4096, .inl ff)), (qx, .inl (cx, 256, .inl tx))]) [4, 5, 0, 1, 2, 3] (by decide) rfl
    have hP : va_P D vwCl [(qd, .inr (1, [.ref qt, .int (nI n), rv, .int fd])), (qt, .inl (ct, 256, .inl tx)), (qh, e0), (ql, .inr (0, [.ref qf, .int lsz, .int lsd])), (qf, .inl (cf, 4096, .inl ff)), (qx, .inl (cx, 256, .inl tx))] H := hP
    have hD : va_D A [(qd, .inr (1, [.ref qt, .int (nI n), rv, .int fd])), (qt, .inl (ct, 256, .inl tx)), (qh, e0), (ql, .inr (0, [.ref qf, .int lsz, .int lsd])), (qf, .inl (cf, 4096, .inl ff)), (qx, .inl (cx, 256, .inl tx))] := hD
    refine W.widen (k := cells + 64) (n := slots + 16640) (by omega) (by omega) ?_
    exact K qh n tx rv e0 fd lsz lsd ff H locs ls ⟨hK, hP, hD, hS, hn, hR⟩ (lv_sub hl [0, 1, 2, 3, 4, 5, 6, 7, 8, 9, 10] rfl)
end
section
/-! THE LAW'S ENTRY, in pieces -/
set_option maxHeartbeats 4000000 in
set_option maxRecDepth 100000 in
/-- behind each act: the drawn piece, the drawn int, the drawn long, at once -/
theorem act_end {p : Program} {l : Launch} {e : Env} {s : State} {m : MethodId} {below : List Frame} {meth : Method} {c : Code} {b L : Nat} {xs : Nat → Int32} {A : Nat → Prop} {D : va_G} {qd qt ql qf qx : Nat} {ct cf cx : ClassId} {cells slots i : Nat} {x7 x8 x9 x10 x11 : Int32} (C0 : lwx p s m meth c b L xs A) (hce : cells + 16 ≤ 1200192) (hsl : slots + 512 ≤ 5500522) (K : lwG p l e s m below meth c b A D qd qt ql qf qx ct cf cx (cells + 16) (slots + 512) 67 (fun n => lwL b qd ql qx n (i + 1))) : lwG p l e s m below meth c b A D qd qt ql qf qx ct cf cx cells slots 606 (fun n => lwL b qd ql qx n i ++ lwL5 x7 x8 x9 x10 x11) := by
  intro qh n tx rv e0 fd lsz lsd ff H locs ls hI hl
  obtain ⟨hK, hP, hD, hS, hn, hR⟩ := hI
  obtain ⟨hx, hb, hr, hml, hown, hts, hX, hbl, hlocks, hN, hL, hA, hA9⟩ := id C0
  have hbA : ¬ A b := fun h => absurd hbl (Nat.not_lt.mpr (hA9 b h))
  have hP : va_P D vwCl [(qd, .inr (1, [.ref qt, .int (nI n), rv, .int fd])), (qt, .inl (ct, 256, .inl tx)), (qh, e0), (ql, .inr (0, [.ref qf, .int lsz, .int lsd])), (qf, .inl (cf, 4096, .inl ff)), (qx, .inl (cx, 256, .inl tx))] H := hP
  have hD : va_D A [(qd, .inr (1, [.ref qt, .int (nI n), rv, .int fd])), (qt, .inl (ct, 256, .inl tx)), (qh, e0), (ql, .inr (0, [.ref qf, .int lsz, .int lsd])), (qf, .inl (cf, 4096, .inl ff)), (qx, .inl (cx, 256, .inl tx))] := hD
  have hK : va_K D vwCl [(ct, .byte), (cf, .byte), (cx, .byte)] s := hK
  have hl : lv_has ls 16 [(0, .ref b), (1, .ref qd), (2, .ref ql), (3, .ref qx), (4, .int (nI n)), (5, .int (nI (6 * i))), (7, .int x7), (8, .int x8), (9, .int x9), (10, .int x10), (11, .int x11)] := hl
  have hin := md_in x7 x8 n
  refine lv_iload hx hb dL_law_606 (lv_at hl 6 rfl) ?_
  refine lv_iload hx hb dL_law_608 (lv_at hl 4 rfl) ?_
  refine lv_iconst (v := 1) hx hb dL_law_610 (by decide) ?_
  refine lv_iadd hx hb dL_law_611 ?_
  refine hk_ti (y := nI (n + 1)) (nI_1 n) ?_
  refine vp_callSi (va_Run.run (va_runS (As := [.int x7, .int (nI (n + 1))]) (rest := []) ⟨hx, hb, hml, hown, hts⟩ (met_md l D x7 (n + 1) (Nat.succ_pos n) (by omega)) (va_cwS 2 hts (lw_S q381 q382 q6 q383) rfl rfl rfl (by decide +kernel) ⟨Nat.le_of_ble_eq_true rfl, Nat.le_of_ble_eq_true rfl⟩) (hk_CS (hP.sub (ws' := []) [] rfl) (hK.sub (tys' := []) [] rfl) hN) rfl rfl hl.1 rfl (lv_room (Nat.le_of_ble_eq_true rfl)) dL_law_612 ⟨by show cells + 0 ≤ 1200192; omega, by show slots + 0 ≤ 5500522; omega⟩)) (fun r_1 hr_1 => ?_)
  obtain rfl : r_1 = nI (mdN x7 (n + 1)) := hr_1
  refine lv_istore (lv' := [(12, .int (nI (mdN x7 (n + 1)))), (0, .ref b), (1, .ref qd), (2, .ref ql), (3, .ref qx), (4, .int (nI n)), (5, .int (nI (6 * i))), (7, .int x7), (8, .int x8), (9, .int x9), (10, .int x10), (11, .int x11)]) hx hb dL_law_615 hl (by decide) rfl (fun ls hl => ?_)
  refine lv_iload hx hb dL_law_617 (lv_at hl 8 rfl) ?_
  refine lv_iload hx hb dL_law_619 (lv_at hl 5 rfl) ?_
  refine lv_iload hx hb dL_law_621 (lv_at hl 0 rfl) ?_
  refine lv_isub hx hb dL_law_623 ?_
  refine lv_iconst (v := 1) hx hb dL_law_624 (by decide) ?_
  refine lv_iadd hx hb dL_law_625 ?_
  refine hk_ti (y := nI (n - mdN x7 (n + 1) + 1)) (by rw [pk_sub (mdN_le x7 n), nI_1]) ?_
  refine vp_callSi (va_Run.run (va_runS (As := [.int x8, .int (nI (n - mdN x7 (n + 1) + 1))]) (rest := []) ⟨hx, hb, hml, hown, hts⟩ (met_md l D x8 (n - mdN x7 (n + 1) + 1) (Nat.succ_pos _) (by omega)) (va_cwS 2 hts (lw_S q381 q382 q6 q383) rfl rfl rfl (by decide +kernel) ⟨Nat.le_of_ble_eq_true rfl, Nat.le_of_ble_eq_true rfl⟩) (hk_CS (hP.sub (ws' := []) [] rfl) (hK.sub (tys' := []) [] rfl) hN) rfl rfl hl.1 rfl (lv_room (Nat.le_of_ble_eq_true rfl)) dL_law_626 ⟨by show cells + 0 ≤ 1200192; omega, by show slots + 0 ≤ 5500522; omega⟩)) (fun r_2 hr_2 => ?_)
  obtain rfl : r_2 = nI (mdN x8 (n - mdN x7 (n + 1) + 1)) := hr_2
  refine lv_istore (lv' := [(13, .int (nI (mdN x8 (n - mdN x7 (n + 1) + 1)))), (12, .int (nI (mdN x7 (n + 1)))), (0, .ref b), (1, .ref qd), (2, .ref ql), (3, .ref qx), (4, .int (nI n)), (5, .int (nI (6 * i))), (7, .int x7), (8, .int x8), (9, .int x9), (10, .int x10), (11, .int x11)]) hx hb dL_law_629 hl (by decide) rfl (fun ls hl => ?_)
  refine lv_aload_n hx hb dL_law_631 rfl (lv_at hl 3 rfl) ?_
  refine lv_iload hx hb dL_law_632 (lv_at hl 8 rfl) ?_
  refine lv_iload hx hb dL_law_634 (lv_at hl 9 rfl) ?_
  refine lv_iload hx hb dL_law_636 (lv_at hl 10 rfl) ?_
  refine hk_ci (wr := [(qh, e0), (ql, .inr (0, [.ref qf, .int lsz, .int lsd])), (qf, .inl (cf, 4096, .inl ff)), (qx, .inl (cx, 256, .inl tx))]) (va_runV (As := [.int x7, .int x8, .int x9]) (rest := []) ⟨hx, hb, hml, hown, hts⟩ (met_wh l D H.size qd qt n ct tx rv fd x7 x8 x9 hn) (cwV 3 hts (lw_V q330 q331 q332 q7 q333) rfl rfl rfl (by decide +kernel) ⟨Nat.le_of_ble_eq_true rfl, Nat.le_of_ble_eq_true rfl⟩) (hk_BV (hP.sub (ws' := [(qd, .inr (1, [.ref qt, .int (nI n), rv, .int fd])), (qt, .inl (ct, 256, .inl tx))]) [0, 1] rfl) (hK.sub (tys' := [(ct, .byte)]) [0] rfl) hN (hD.sub (ws' := [(qd, .inr (1, [.ref qt, .int (nI n), rv, .int fd])), (qt, .inl (ct, 256, .inl tx))]) [0, 1] (by decide) rfl) (va_recv hK hP (ci := 1) (q0 := 0) rfl rfl)) rfl rfl hl.1 rfl (lv_room (Nat.le_of_ble_eq_true rfl)) dL_law_638 ⟨by show cells + 2 ≤ 1200192; omega, by show slots + 3 ≤ 5500522; omega⟩) hP hD hK hS hA [0, 1] [2, 3, 4, 5] rfl rfl (by decide) (by decide) (fun r_3 q1 H locs h_4 hP hD hK hS => ?_)
  have hP : va_P D vwCl [(qh, e0), (ql, .inr (0, [.ref qf, .int lsz, .int lsd])), (qf, .inl (cf, 4096, .inl ff)), (qx, .inl (cx, 256, .inl tx)), (qd, .inr (1, [.ref qt, .int (nI n), rv, .int fd])), (qt, .inl (ct, 256, .inl tx)), (q1, .inr (2, [.int x9, .int 1]))] H := hP
  have hD : va_D A [(qh, e0), (ql, .inr (0, [.ref qf, .int lsz, .int lsd])), (qf, .inl (cf, 4096, .inl ff)), (qx, .inl (cx, 256, .inl tx)), (qd, .inr (1, [.ref qt, .int (nI n), rv, .int fd])), (qt, .inl (ct, 256, .inl tx)), (q1, .inr (2, [.int x9, .int 1]))] := hD
  have hK := hK.sub (tys' := [(ct, .byte), (cf, .byte), (cx, .byte)]) [0, 1, 2] rfl
  obtain rfl : r_3 = m_hash (fun j => uN (tx (mdN x7 (n + 1) + j))) (mdN x8 (n - mdN x7 (n + 1) + 1)) x9 := h_4
  have hP := hP.sub (ws' := [(qd, .inr (1, [.ref qt, .int (nI n), rv, .int fd])), (qt, .inl (ct, 256, .inl tx)), (qh, e0), (ql, .inr (0, [.ref qf, .int lsz, .int lsd])), (qf, .inl (cf, 4096, .inl ff)), (qx, .inl (cx, 256, .inl tx))]) [4, 5, 0, 1, 2, 3] rfl
  have hD := hD.sub (ws' := [(qd, .inr (1, [.ref qt, .int (nI n), rv, .int fd])), (qt, .inl (ct, 256, .inl tx)), (qh, e0), (ql, .inr (0, [.ref qf, .int lsz, .int lsd])), (qf, .inl (cf, 4096, .inl ff)), (qx, .inl (cx, 256, .inl tx))]) [4, 5, 0, 1, 2, 3] (by decide) rfl
  refine lv_aload_n hx hb dL_law_641 rfl (lv_at hl 5 rfl) ?_
  refine lv_iload hx hb dL_law_642 (lv_at hl 1 rfl) ?_
  refine lv_iload hx hb dL_law_644 (lv_at hl 0 rfl) ?_
  refine hk_cr (wr := [(qd, .inr (1, [.ref qt, .int (nI n), rv, .int fd])), (qt, .inl (ct, 256, .inl tx)), (qh, e0), (ql, .inr (0, [.ref qf, .int lsz, .int lsd])), (qf, .inl (cf, 4096, .inl ff))]) (va_runS (As := [.ref qx, .int (nI (mdN x7 (n + 1))), .int (nI (mdN x8 (n - mdN x7 (n + 1) + 1)))]) (rest := [.int (m_hash (fun j => uN (tx (mdN x7 (n + 1) + j))) (mdN x8 (n - mdN x7 (n + 1) + 1)) x9)]) ⟨hx, hb, hml, hown, hts⟩ (met_pa l D H.size qx cx tx (mdN x7 (n + 1)) (mdN x8 (n - mdN x7 (n + 1) + 1)) (by omega)) (va_cwS 3 hts (lw_S q399 q400 q6 q401) rfl rfl rfl (by decide +kernel) ⟨Nat.le_of_ble_eq_true rfl, Nat.le_of_ble_eq_true rfl⟩) (hk_BS (hP.sub (ws' := [(qx, .inl (cx, 256, .inl tx))]) [5] rfl) (hK.sub (tys' := [(cx, .byte)]) [2] rfl) hN (hD.sub (ws' := [(qx, .inl (cx, 256, .inl tx))]) [5] (by decide) rfl)) rfl rfl hl.1 rfl (lv_room (Nat.le_of_ble_eq_true rfl)) dL_law_646 ⟨by show cells + 2 + 1 ≤ 1200192; omega, by show slots + 3 + 256 ≤ 5500522; omega⟩) hP hD hK hS hA [5] [0, 1, 2, 3, 4] rfl rfl (by decide) (by decide) (fun w1 q2 H locs hw1 hP hD hK hS => ?_)
  have hP : va_P D vwCl [(qd, .inr (1, [.ref qt, .int (nI n), rv, .int fd])), (qt, .inl (ct, 256, .inl tx)), (qh, e0), (ql, .inr (0, [.ref qf, .int lsz, .int lsd])), (qf, .inl (cf, 4096, .inl ff)), (qx, .inl (cx, 256, .inl tx)), (q2, .inl (w1.1, mdN x8 (n - mdN x7 (n + 1) + 1), .inl w1.2))] H := hP
  have hD : va_D A [(qd, .inr (1, [.ref qt, .int (nI n), rv, .int fd])), (qt, .inl (ct, 256, .inl tx)), (qh, e0), (ql, .inr (0, [.ref qf, .int lsz, .int lsd])), (qf, .inl (cf, 4096, .inl ff)), (qx, .inl (cx, 256, .inl tx)), (q2, .inl (w1.1, mdN x8 (n - mdN x7 (n + 1) + 1), .inl w1.2))] := hD
  have hK : va_K D vwCl [(ct, .byte), (cf, .byte), (cx, .byte), (cx, .byte), (w1.1, .byte)] s := hK
  have hK := hK.sub (tys' := [(ct, .byte), (cf, .byte), (cx, .byte), (w1.1, .byte)]) [0, 1, 2, 4] rfl
  refine lv_iload hx hb dL_law_649 (lv_at hl 0 rfl) ?_
  refine lv_iload hx hb dL_law_651 (lv_at hl 10 rfl) ?_
  refine vp_callSi (va_Run.run (va_runS (As := [.ref q2, .int (nI (mdN x8 (n - mdN x7 (n + 1) + 1))), .int x9]) (rest := [.int (m_hash (fun j => uN (tx (mdN x7 (n + 1) + j))) (mdN x8 (n - mdN x7 (n + 1) + 1)) x9)]) ⟨hx, hb, hml, hown, hts⟩ (met_du l D q2 (mdN x8 (n - mdN x7 (n + 1) + 1)) w1.1 w1.2 (mdN x8 (n - mdN x7 (n + 1) + 1)) x9 (by omega) (Nat.le_refl _)) (va_cwS 3 hts (lw_S q385 q386 q6 q387) rfl rfl rfl (by decide +kernel) ⟨Nat.le_of_ble_eq_true rfl, Nat.le_of_ble_eq_true rfl⟩) (hk_CS (hP.sub (ws' := [(q2, .inl (w1.1, mdN x8 (n - mdN x7 (n + 1) + 1), .inl w1.2))]) [6] rfl) (hK.sub (tys' := [(w1.1, .byte)]) [3] rfl) hN) rfl rfl hl.1 rfl (lv_room (Nat.le_of_ble_eq_true rfl)) dL_law_653 ⟨by show cells + 2 + 1 + 0 ≤ 1200192; omega, by show slots + 3 + 256 + 0 ≤ 5500522; omega⟩)) (fun r_6 hr_6 => ?_)
  obtain rfl : r_6 = m_hash (fun j => uN (w1.2 j)) (mdN x8 (n - mdN x7 (n + 1) + 1)) x9 := hr_6
  refine lv_icmp_ne (tgt := 715) hx hb dL_law_656 (by decide) (fun c_7 => absurd (m_hash_congr x9 (fun j hj => (hw1 j hj).symm)) c_7) (fun c_7 => ?_)
  have hP := hP.sub (ws' := [(qd, .inr (1, [.ref qt, .int (nI n), rv, .int fd])), (qt, .inl (ct, 256, .inl tx)), (qh, e0), (ql, .inr (0, [.ref qf, .int lsz, .int lsd])), (qf, .inl (cf, 4096, .inl ff)), (qx, .inl (cx, 256, .inl tx))]) [0, 1, 2, 3, 4, 5] rfl
  have hD := hD.sub (ws' := [(qd, .inr (1, [.ref qt, .int (nI n), rv, .int fd])), (qt, .inl (ct, 256, .inl tx)), (qh, e0), (ql, .inr (0, [.ref qf, .int lsz, .int lsd])), (qf, .inl (cf, 4096, .inl ff)), (qx, .inl (cx, 256, .inl tx))]) [0, 1, 2, 3, 4, 5] (by decide) rfl
  have hK := hK.sub (tys' := [(ct, .byte), (cf, .byte), (cx, .byte)]) [0, 1, 2] rfl
  refine lv_aload_n hx hb dL_law_659 rfl (lv_at hl 3 rfl) ?_
  refine lv_iload hx hb dL_law_660 (lv_at hl 11 rfl) ?_
  refine lv_iload hx hb dL_law_662 (lv_at hl 12 rfl) ?_
  refine hk_ci (wr := [(qd, .inr (1, [.ref qt, .int (nI n), rv, .int fd])), (qt, .inl (ct, 256, .inl tx)), (qh, e0), (ql, .inr (0, [.ref qf, .int lsz, .int lsd])), (qf, .inl (cf, 4096, .inl ff)), (qx, .inl (cx, 256, .inl tx))]) (va_runV (As := [.int x10, .int x11]) (rest := []) ⟨hx, hb, hml, hown, hts⟩ (met_ow l D H.size qd x10 x11) (cwV 2 hts (lw_V q346 q347 q348 q7 q349) rfl rfl rfl (by decide +kernel) ⟨Nat.le_of_ble_eq_true rfl, Nat.le_of_ble_eq_true rfl⟩) (hk_BV (hP.sub (ws' := []) [] rfl) (hK.sub (tys' := []) [] rfl) hN (hD.sub (ws' := []) [] (by decide) rfl) (va_recv hK hP (ci := 1) (q0 := 0) rfl rfl)) rfl rfl hl.1 rfl (lv_room (Nat.le_of_ble_eq_true rfl)) dL_law_664 ⟨by show cells + 2 + 1 + 2 ≤ 1200192; omega, by show slots + 3 + 256 + 3 ≤ 5500522; omega⟩) hP hD hK hS hA [] [0, 1, 2, 3, 4, 5] rfl rfl (by decide) (by decide) (fun r_8 u_10 H locs h_9 hP hD hK hS => ?_)
  have hP : va_P D vwCl [(qd, .inr (1, [.ref qt, .int (nI n), rv, .int fd])), (qt, .inl (ct, 256, .inl tx)), (qh, e0), (ql, .inr (0, [.ref qf, .int lsz, .int lsd])), (qf, .inl (cf, 4096, .inl ff)), (qx, .inl (cx, 256, .inl tx))] H := hP
  have hD : va_D A [(qd, .inr (1, [.ref qt, .int (nI n), rv, .int fd])), (qt, .inl (ct, 256, .inl tx)), (qh, e0), (ql, .inr (0, [.ref qf, .int lsz, .int lsd])), (qf, .inl (cf, 4096, .inl ff)), (qx, .inl (cx, 256, .inl tx))] := hD
  have hK : va_K D vwCl [(ct, .byte), (cf, .byte), (cx, .byte)] s := hK
  obtain rfl : r_8 = m_hash (gL (uN x10)) 4 x11 := h_9
  refine lv_iload hx hb dL_law_667 (lv_at hl 11 rfl) ?_
  refine lv_i2l (v := (x10 : Int32).toInt64) hx hb dL_law_669 rfl ?_
  refine lv_iconst (v := 4) hx hb dL_law_670 (by decide) ?_
  refine hk_ti (y := nI 4) (rfl) ?_
  refine hk_cr (wr := [(qd, .inr (1, [.ref qt, .int (nI n), rv, .int fd])), (qt, .inl (ct, 256, .inl tx)), (qh, e0), (ql, .inr (0, [.ref qf, .int lsz, .int lsd])), (qf, .inl (cf, 4096, .inl ff)), (qx, .inl (cx, 256, .inl tx))]) (va_runS (As := [.long ((x10 : Int32).toInt64), .int (nI 4)]) (rest := [.int (m_hash (gL (uN x10)) 4 x11)]) ⟨hx, hb, hml, hown, hts⟩ (met_by l D H.size x10.toInt64 4 (by decide)) (va_cwS 2 hts (lw_S q396 q397 q6 q398) rfl rfl rfl (by decide +kernel) ⟨Nat.le_of_ble_eq_true rfl, Nat.le_of_ble_eq_true rfl⟩) (hk_BS (hP.sub (ws' := []) [] rfl) (hK.sub (tys' := []) [] rfl) hN (hD.sub (ws' := []) [] (by decide) rfl)) rfl rfl hl.1 rfl (lv_room (Nat.le_of_ble_eq_true rfl)) dL_law_671 ⟨by show cells + 2 + 1 + 2 + 1 ≤ 1200192; omega, by show slots + 3 + 256 + 3 + 8 ≤ 5500522; omega⟩) hP hD hK hS hA [] [0, 1, 2, 3, 4, 5] rfl rfl (by decide) (by decide) (fun w2 q3 H locs hw2 hP hD hK hS => ?_)
  have hP : va_P D vwCl [(qd, .inr (1, [.ref qt, .int (nI n), rv, .int fd])), (qt, .inl (ct, 256, .inl tx)), (qh, e0), (ql, .inr (0, [.ref qf, .int lsz, .int lsd])), (qf, .inl (cf, 4096, .inl ff)), (qx, .inl (cx, 256, .inl tx)), (q3, .inl (w2.1, 4, .inl w2.2))] H := hP
  have hD : va_D A [(qd, .inr (1, [.ref qt, .int (nI n), rv, .int fd])), (qt, .inl (ct, 256, .inl tx)), (qh, e0), (ql, .inr (0, [.ref qf, .int lsz, .int lsd])), (qf, .inl (cf, 4096, .inl ff)), (qx, .inl (cx, 256, .inl tx)), (q3, .inl (w2.1, 4, .inl w2.2))] := hD
  have hK : va_K D vwCl [(ct, .byte), (cf, .byte), (cx, .byte), (w2.1, .byte)] s := hK
  refine lv_iconst (v := 4) hx hb dL_law_674 (by decide) ?_
  refine hk_ti (y := nI 4) (rfl) ?_
  refine lv_iload hx hb dL_law_675 (lv_at hl 12 rfl) ?_
  refine vp_callSi (va_Run.run (va_runS (As := [.ref q3, .int (nI 4), .int x11]) (rest := [.int (m_hash (gL (uN x10)) 4 x11)]) ⟨hx, hb, hml, hown, hts⟩ (met_du l D q3 4 w2.1 w2.2 4 x11 (by decide) (Nat.le_refl _)) (va_cwS 3 hts (lw_S q385 q386 q6 q387) rfl rfl rfl (by decide +kernel) ⟨Nat.le_of_ble_eq_true rfl, Nat.le_of_ble_eq_true rfl⟩) (hk_CS (hP.sub (ws' := [(q3, .inl (w2.1, 4, .inl w2.2))]) [6] rfl) (hK.sub (tys' := [(w2.1, .byte)]) [3] rfl) hN) rfl rfl hl.1 rfl (lv_room (Nat.le_of_ble_eq_true rfl)) dL_law_677 ⟨by show cells + 2 + 1 + 2 + 1 + 0 ≤ 1200192; omega, by show slots + 3 + 256 + 3 + 8 + 0 ≤ 5500522; omega⟩)) (fun r_12 hr_12 => ?_)
  obtain rfl : r_12 = m_hash (fun j => uN (w2.2 j)) 4 x11 := hr_12
  refine lv_icmp_ne (tgt := 715) hx hb dL_law_680 (by decide) (fun c_13 => absurd (m_hash_congr x11 (fun j hj => (by_4 x10 hw2 j hj).symm)) c_13) (fun c_13 => ?_)
  have hP := hP.sub (ws' := [(qd, .inr (1, [.ref qt, .int (nI n), rv, .int fd])), (qt, .inl (ct, 256, .inl tx)), (qh, e0), (ql, .inr (0, [.ref qf, .int lsz, .int lsd])), (qf, .inl (cf, 4096, .inl ff)), (qx, .inl (cx, 256, .inl tx))]) [0, 1, 2, 3, 4, 5] rfl
  have hD := hD.sub (ws' := [(qd, .inr (1, [.ref qt, .int (nI n), rv, .int fd])), (qt, .inl (ct, 256, .inl tx)), (qh, e0), (ql, .inr (0, [.ref qf, .int lsz, .int lsd])), (qf, .inl (cf, 4096, .inl ff)), (qx, .inl (cx, 256, .inl tx))]) [0, 1, 2, 3, 4, 5] (by decide) rfl
  have hK := hK.sub (tys' := [(ct, .byte), (cf, .byte), (cx, .byte)]) [0, 1, 2] rfl
  refine lv_aload_n hx hb dL_law_683 rfl (lv_at hl 3 rfl) ?_
  refine lv_iload hx hb dL_law_684 (lv_at hl 8 rfl) ?_
  refine lv_iload hx hb dL_law_686 (lv_at hl 11 rfl) ?_
  refine lv_iload hx hb dL_law_688 (lv_at hl 12 rfl) ?_
  refine hk_ci (wr := [(qd, .inr (1, [.ref qt, .int (nI n), rv, .int fd])), (qt, .inl (ct, 256, .inl tx)), (qh, e0), (ql, .inr (0, [.ref qf, .int lsz, .int lsd])), (qf, .inl (cf, 4096, .inl ff)), (qx, .inl (cx, 256, .inl tx))]) (va_runV (As := [.int x7, .int x10, .int x11]) (rest := []) ⟨hx, hb, hml, hown, hts⟩ (met_ol l D H.size qd x7 x10 x11) (cwV 3 hts (lw_V q354 q355 q356 q7 q357) rfl rfl rfl (by decide +kernel) ⟨Nat.le_of_ble_eq_true rfl, Nat.le_of_ble_eq_true rfl⟩) (hk_BV (hP.sub (ws' := []) [] rfl) (hK.sub (tys' := []) [] rfl) hN (hD.sub (ws' := []) [] (by decide) rfl) (va_recv hK hP (ci := 1) (q0 := 0) rfl rfl)) rfl rfl hl.1 rfl (lv_room (Nat.le_of_ble_eq_true rfl)) dL_law_690 ⟨by show cells + 2 + 1 + 2 + 1 + 2 ≤ 1200192; omega, by show slots + 3 + 256 + 3 + 8 + 3 ≤ 5500522; omega⟩) hP hD hK hS hA [] [0, 1, 2, 3, 4, 5] rfl rfl (by decide) (by decide) (fun r_14 u_16 H locs h_15 hP hD hK hS => ?_)
  have hP : va_P D vwCl [(qd, .inr (1, [.ref qt, .int (nI n), rv, .int fd])), (qt, .inl (ct, 256, .inl tx)), (qh, e0), (ql, .inr (0, [.ref qf, .int lsz, .int lsd])), (qf, .inl (cf, 4096, .inl ff)), (qx, .inl (cx, 256, .inl tx))] H := hP
  have hD : va_D A [(qd, .inr (1, [.ref qt, .int (nI n), rv, .int fd])), (qt, .inl (ct, 256, .inl tx)), (qh, e0), (ql, .inr (0, [.ref qf, .int lsz, .int lsd])), (qf, .inl (cf, 4096, .inl ff)), (qx, .inl (cx, 256, .inl tx))] := hD
  have hK : va_K D vwCl [(ct, .byte), (cf, .byte), (cx, .byte)] s := hK
  obtain rfl : r_14 = m_hash (gL (uL (m_wd x7 x10))) 8 x11 := h_15
  refine lv_iload hx hb dL_law_693 (lv_at hl 8 rfl) ?_
  refine lv_iload hx hb dL_law_695 (lv_at hl 11 rfl) ?_
  refine vp_callSl (va_Run.run (va_runS (As := [.int x7, .int x10]) (rest := [.int (m_hash (gL (uL (m_wd x7 x10))) 8 x11)]) ⟨hx, hb, hml, hown, hts⟩ (met_wd l D x7 x10) (va_cwS 2 hts (lw_S q410 q411 q6 q412) rfl rfl rfl (by decide +kernel) ⟨Nat.le_of_ble_eq_true rfl, Nat.le_of_ble_eq_true rfl⟩) (hk_CS (hP.sub (ws' := []) [] rfl) (hK.sub (tys' := []) [] rfl) hN) rfl rfl hl.1 rfl (lv_room (Nat.le_of_ble_eq_true rfl)) dL_law_697 ⟨by show cells + 2 + 1 + 2 + 1 + 2 + 0 ≤ 1200192; omega, by show slots + 3 + 256 + 3 + 8 + 3 + 0 ≤ 5500522; omega⟩)) (fun r_17 hr_17 => ?_)
  obtain rfl : r_17 = m_wd x7 x10 := hr_17
  refine lv_bipush (v := 8) hx hb dL_law_700 (by decide) ?_
  refine hk_ti (y := nI 8) (rfl) ?_
  refine hk_cr (wr := [(qd, .inr (1, [.ref qt, .int (nI n), rv, .int fd])), (qt, .inl (ct, 256, .inl tx)), (qh, e0), (ql, .inr (0, [.ref qf, .int lsz, .int lsd])), (qf, .inl (cf, 4096, .inl ff)), (qx, .inl (cx, 256, .inl tx))]) (va_runS (As := [.long (m_wd x7 x10), .int (nI 8)]) (rest := [.int (m_hash (gL (uL (m_wd x7 x10))) 8 x11)]) ⟨hx, hb, hml, hown, hts⟩ (met_by l D H.size (m_wd x7 x10) 8 (by decide)) (va_cwS 2 hts (lw_S q396 q397 q6 q398) rfl rfl rfl (by decide +kernel) ⟨Nat.le_of_ble_eq_true rfl, Nat.le_of_ble_eq_true rfl⟩) (hk_BS (hP.sub (ws' := []) [] rfl) (hK.sub (tys' := []) [] rfl) hN (hD.sub (ws' := []) [] (by decide) rfl)) rfl rfl hl.1 rfl (lv_room (Nat.le_of_ble_eq_true rfl)) dL_law_702 ⟨by show cells + 2 + 1 + 2 + 1 + 2 + 1 ≤ 1200192; omega, by show slots + 3 + 256 + 3 + 8 + 3 + 8 ≤ 5500522; omega⟩) hP hD hK hS hA [] [0, 1, 2, 3, 4, 5] rfl rfl (by decide) (by decide) (fun w3 q4 H locs hw3 hP hD hK hS => ?_)
  have hP : va_P D vwCl [(qd, .inr (1, [.ref qt, .int (nI n), rv, .int fd])), (qt, .inl (ct, 256, .inl tx)), (qh, e0), (ql, .inr (0, [.ref qf, .int lsz, .int lsd])), (qf, .inl (cf, 4096, .inl ff)), (qx, .inl (cx, 256, .inl tx)), (q4, .inl (w3.1, 8, .inl w3.2))] H := hP
  have hD : va_D A [(qd, .inr (1, [.ref qt, .int (nI n), rv, .int fd])), (qt, .inl (ct, 256, .inl tx)), (qh, e0), (ql, .inr (0, [.ref qf, .int lsz, .int lsd])), (qf, .inl (cf, 4096, .inl ff)), (qx, .inl (cx, 256, .inl tx)), (q4, .inl (w3.1, 8, .inl w3.2))] := hD
  have hK : va_K D vwCl [(ct, .byte), (cf, .byte), (cx, .byte), (w3.1, .byte)] s := hK
  refine lv_bipush (v := 8) hx hb dL_law_705 (by decide) ?_
  refine hk_ti (y := nI 8) (rfl) ?_
  refine lv_iload hx hb dL_law_707 (lv_at hl 12 rfl) ?_
  refine vp_callSi (va_Run.run (va_runS (As := [.ref q4, .int (nI 8), .int x11]) (rest := [.int (m_hash (gL (uL (m_wd x7 x10))) 8 x11)]) ⟨hx, hb, hml, hown, hts⟩ (met_du l D q4 8 w3.1 w3.2 8 x11 (by decide) (Nat.le_refl _)) (va_cwS 3 hts (lw_S q385 q386 q6 q387) rfl rfl rfl (by decide +kernel) ⟨Nat.le_of_ble_eq_true rfl, Nat.le_of_ble_eq_true rfl⟩) (hk_CS (hP.sub (ws' := [(q4, .inl (w3.1, 8, .inl w3.2))]) [6] rfl) (hK.sub (tys' := [(w3.1, .byte)]) [3] rfl) hN) rfl rfl hl.1 rfl (lv_room (Nat.le_of_ble_eq_true rfl)) dL_law_709 ⟨by show cells + 2 + 1 + 2 + 1 + 2 + 1 + 0 ≤ 1200192; omega, by show slots + 3 + 256 + 3 + 8 + 3 + 8 + 0 ≤ 5500522; omega⟩)) (fun r_19 hr_19 => ?_)
  obtain rfl : r_19 = m_hash (fun j => uN (w3.2 j)) 8 x11 := hr_19
  refine lv_icmp_eq (tgt := 717) hx hb dL_law_712 (by decide) (fun c_20 => ?_) (fun c_20 => absurd (m_hash_congr x11 (fun j hj => (hw3 j hj).symm)) c_20)
  have hP := hP.sub (ws' := [(qd, .inr (1, [.ref qt, .int (nI n), rv, .int fd])), (qt, .inl (ct, 256, .inl tx)), (qh, e0), (ql, .inr (0, [.ref qf, .int lsz, .int lsd])), (qf, .inl (cf, 4096, .inl ff)), (qx, .inl (cx, 256, .inl tx))]) [0, 1, 2, 3, 4, 5] rfl
  have hD := hD.sub (ws' := [(qd, .inr (1, [.ref qt, .int (nI n), rv, .int fd])), (qt, .inl (ct, 256, .inl tx)), (qh, e0), (ql, .inr (0, [.ref qf, .int lsz, .int lsd])), (qf, .inl (cf, 4096, .inl ff)), (qx, .inl (cx, 256, .inl tx))]) [0, 1, 2, 3, 4, 5] (by decide) rfl
  have hK := hK.sub (tys' := [(ct, .byte), (cf, .byte), (cx, .byte)]) [0, 1, 2] rfl
  refine lv_iinc (v := nI (6 * (i + 1))) (lv' := [(5, .int (nI (6 * (i + 1)))), (13, .int (nI (mdN x8 (n - mdN x7 (n + 1) + 1)))), (12, .int (nI (mdN x7 (n + 1)))), (0, .ref b), (1, .ref qd), (2, .ref ql), (3, .ref qx), (4, .int (nI n)), (7, .int x7), (8, .int x8), (9, .int x9), (10, .int x10), (11, .int x11)]) hx hb dL_law_717 hl (k := 7) rfl (nI_o6 _) (by decide) rfl (fun ls hl => ?_)
  refine lv_goto (tgt := 67) hx hb dL_law_720 (by decide) ?_
  have hP : va_P D vwCl [(qd, .inr (1, [.ref qt, .int (nI n), rv, .int fd])), (qt, .inl (ct, 256, .inl tx)), (qh, e0), (ql, .inr (0, [.ref qf, .int lsz, .int lsd])), (qf, .inl (cf, 4096, .inl ff)), (qx, .inl (cx, 256, .inl tx))] H := hP
  have hD : va_D A [(qd, .inr (1, [.ref qt, .int (nI n), rv, .int fd])), (qt, .inl (ct, 256, .inl tx)), (qh, e0), (ql, .inr (0, [.ref qf, .int lsz, .int lsd])), (qf, .inl (cf, 4096, .inl ff)), (qx, .inl (cx, 256, .inl tx))] := hD
  refine W.widen (k := cells + 16) (n := slots + 512) (by omega) (by omega) ?_
  exact K qh n tx rv e0 fd lsz lsd ff H locs ls ⟨hK, hP, hD, hS, hn, hR⟩ (lv_sub hl [3, 4, 5, 6, 7, 0] rfl)
end
section
/-! THE LAW'S ENTRY, in pieces -/
set_option maxHeartbeats 4000000 in
set_option maxRecDepth 100000 in
/-- the law's loop over the script: sixteen acts -/
theorem law_loop {p : Program} {l : Launch} {e : Env} {s : State} {m : MethodId} {below : List Frame} {meth : Method} {c : Code} {b L : Nat} {xs : Nat → Int32} {A : Nat → Prop} {D : va_G} {qd qt ql qf qx : Nat} {ct cf cx : ClassId} {cells slots : Nat} (C0 : lwx p s m meth c b L xs A) (hce : cells ≤ 100000) (hsl : slots ≤ 100000) (K : lwG p l e s m below meth c b A D qd qt ql qf qx ct cf cx (cells + 80 * 16) (slots + 17152 * 16) 723 (fun n => lwL b qd ql qx n 16)) : ∀ (k i : Nat), i ≤ 16 → 17 ≤ i + k → lwG p l e s m below meth c b A D qd qt ql qf qx ct cf cx (cells + 80 * i) (slots + 17152 * i) 67 (fun n => lwL b qd ql qx n i) := by
  intro k
  induction k with
  | zero =>
    intro i h1 h2
    exact absurd h2 (by omega)
  | succ k ih =>
    intro i hi hfu
    intro qh n tx rv e0 fd lsz lsd ff H locs ls hI hl
    obtain ⟨hK, hP, hD, hS, hn, hR⟩ := hI
    obtain ⟨hx, hb, hr, hml, hown, hts, hX, hbl, hlocks, hN, hL, hA, hA9⟩ := id C0
    have hbA : ¬ A b := fun h => absurd hbl (Nat.not_lt.mpr (hA9 b h))
    have hP : va_P D vwCl [(qd, .inr (1, [.ref qt, .int (nI n), rv, .int fd])), (qt, .inl (ct, 256, .inl tx)), (qh, e0), (ql, .inr (0, [.ref qf, .int lsz, .int lsd])), (qf, .inl (cf, 4096, .inl ff)), (qx, .inl (cx, 256, .inl tx))] H := hP
    have hD : va_D A [(qd, .inr (1, [.ref qt, .int (nI n), rv, .int fd])), (qt, .inl (ct, 256, .inl tx)), (qh, e0), (ql, .inr (0, [.ref qf, .int lsz, .int lsd])), (qf, .inl (cf, 4096, .inl ff)), (qx, .inl (cx, 256, .inl tx))] := hD
    have hK : va_K D vwCl [(ct, .byte), (cf, .byte), (cx, .byte)] s := hK
    have hl : lv_has ls 16 [(0, .ref b), (1, .ref qd), (2, .ref ql), (3, .ref qx), (4, .int (nI n)), (5, .int (nI (6 * i)))] := hl
    refine lv_iload hx hb dL_law_67 (lv_at hl 5 rfl) ?_
    refine lv_bipush (v := 96) hx hb dL_law_69 (by decide) ?_
    refine lv_icmp_ge (tgt := 723) hx hb dL_law_71 (by decide) (fun c_1 => ?_) (fun c_1 => ?_)
    · have hi5 : i = 16 := by have h9 := le_of_nI (a := 96) (by decide) (by omega) c_1; omega
      subst hi5
      exact K qh n tx rv e0 fd lsz lsd ff H locs ls ⟨hK, hP, hD, hS, hn, hR⟩ hl
    · have hi5 : i < 16 := by have h9 := lt_of_nle (a := 96) (by decide) (by omega) c_1; omega
      refine lv_aload_n hx hb dL_law_74 rfl (lv_at hl 0 rfl) ?_
      refine lv_iload hx hb dL_law_75 (lv_at hl 5 rfl) ?_
      refine vp_callSi (va_Run.run (va_runS (As := [.ref b, .int (nI (6 * i))]) (rest := []) ⟨hx, hb, hml, hown, hts⟩ (met_ce l D b L xs (6 * i) (by omega) (by omega)) (va_cwS 2 hts (lw_S q378 q379 q6 q380) rfl rfl rfl (by decide +kernel) ⟨Nat.le_of_ble_eq_true rfl, Nat.le_of_ble_eq_true rfl⟩) (hk_XS hX hbl hbA hS) rfl rfl hl.1 rfl (lv_room (Nat.le_of_ble_eq_true rfl)) dL_law_77 ⟨by show cells + 80 * i + 0 ≤ 1200192; omega, by show slots + 17152 * i + 0 ≤ 5500522; omega⟩)) (fun x6 hx6 => ?_)
      refine lv_istore (lv' := [(6, .int x6), (0, .ref b), (1, .ref qd), (2, .ref ql), (3, .ref qx), (4, .int (nI n)), (5, .int (nI (6 * i)))]) hx hb dL_law_80 hl (by decide) rfl (fun ls hl => ?_)
      refine lv_aload_n hx hb dL_law_82 rfl (lv_at hl 1 rfl) ?_
      refine lv_iload hx hb dL_law_83 (lv_at hl 6 rfl) ?_
      refine lv_iconst (v := 1) hx hb dL_law_85 (by decide) ?_
      refine lv_iadd hx hb dL_law_86 ?_
      refine hk_ti (y := nI (6 * i + 1)) (nI_inc (6 * i) 1 rfl) ?_
      refine vp_callSi (va_Run.run (va_runS (As := [.ref b, .int (nI (6 * i + 1))]) (rest := []) ⟨hx, hb, hml, hown, hts⟩ (met_ce l D b L xs (6 * i + 1) (by omega) (by omega)) (va_cwS 2 hts (lw_S q378 q379 q6 q380) rfl rfl rfl (by decide +kernel) ⟨Nat.le_of_ble_eq_true rfl, Nat.le_of_ble_eq_true rfl⟩) (hk_XS hX hbl hbA hS) rfl rfl hl.1 rfl (lv_room (Nat.le_of_ble_eq_true rfl)) dL_law_87 ⟨by show cells + 80 * i + 0 ≤ 1200192; omega, by show slots + 17152 * i + 0 ≤ 5500522; omega⟩)) (fun x7 hx7 => ?_)
      refine lv_istore (lv' := [(7, .int x7), (6, .int x6), (0, .ref b), (1, .ref qd), (2, .ref ql), (3, .ref qx), (4, .int (nI n)), (5, .int (nI (6 * i)))]) hx hb dL_law_90 hl (by decide) rfl (fun ls hl => ?_)
      refine lv_aload_n hx hb dL_law_92 rfl (lv_at hl 2 rfl) ?_
      refine lv_iload hx hb dL_law_93 (lv_at hl 7 rfl) ?_
      refine lv_iconst (v := 2) hx hb dL_law_95 (by decide) ?_
      refine lv_iadd hx hb dL_law_96 ?_
      refine hk_ti (y := nI (6 * i + 2)) (nI_inc (6 * i) 2 rfl) ?_
      refine vp_callSi (va_Run.run (va_runS (As := [.ref b, .int (nI (6 * i + 2))]) (rest := []) ⟨hx, hb, hml, hown, hts⟩ (met_ce l D b L xs (6 * i + 2) (by omega) (by omega)) (va_cwS 2 hts (lw_S q378 q379 q6 q380) rfl rfl rfl (by decide +kernel) ⟨Nat.le_of_ble_eq_true rfl, Nat.le_of_ble_eq_true rfl⟩) (hk_XS hX hbl hbA hS) rfl rfl hl.1 rfl (lv_room (Nat.le_of_ble_eq_true rfl)) dL_law_97 ⟨by show cells + 80 * i + 0 ≤ 1200192; omega, by show slots + 17152 * i + 0 ≤ 5500522; omega⟩)) (fun x8 hx8 => ?_)
      refine lv_istore (lv' := [(8, .int x8), (7, .int x7), (6, .int x6), (0, .ref b), (1, .ref qd), (2, .ref ql), (3, .ref qx), (4, .int (nI n)), (5, .int (nI (6 * i)))]) hx hb dL_law_100 hl (by decide) rfl (fun ls hl => ?_)
      refine lv_aload_n hx hb dL_law_102 rfl (lv_at hl 3 rfl) ?_
      refine lv_iload hx hb dL_law_103 (lv_at hl 8 rfl) ?_
      refine lv_iconst (v := 3) hx hb dL_law_105 (by decide) ?_
      refine lv_iadd hx hb dL_law_106 ?_
      refine hk_ti (y := nI (6 * i + 3)) (nI_inc (6 * i) 3 rfl) ?_
      refine vp_callSi (va_Run.run (va_runS (As := [.ref b, .int (nI (6 * i + 3))]) (rest := []) ⟨hx, hb, hml, hown, hts⟩ (met_ce l D b L xs (6 * i + 3) (by omega) (by omega)) (va_cwS 2 hts (lw_S q378 q379 q6 q380) rfl rfl rfl (by decide +kernel) ⟨Nat.le_of_ble_eq_true rfl, Nat.le_of_ble_eq_true rfl⟩) (hk_XS hX hbl hbA hS) rfl rfl hl.1 rfl (lv_room (Nat.le_of_ble_eq_true rfl)) dL_law_107 ⟨by show cells + 80 * i + 0 ≤ 1200192; omega, by show slots + 17152 * i + 0 ≤ 5500522; omega⟩)) (fun x9 hx9 => ?_)
      refine lv_istore (lv' := [(9, .int x9), (8, .int x8), (7, .int x7), (6, .int x6), (0, .ref b), (1, .ref qd), (2, .ref ql), (3, .ref qx), (4, .int (nI n)), (5, .int (nI (6 * i)))]) hx hb dL_law_110 hl (by decide) rfl (fun ls hl => ?_)
      refine lv_aload_n hx hb dL_law_112 rfl (lv_at hl 4 rfl) ?_
      refine lv_iload hx hb dL_law_113 (lv_at hl 9 rfl) ?_
      refine lv_iconst (v := 4) hx hb dL_law_115 (by decide) ?_
      refine lv_iadd hx hb dL_law_116 ?_
      refine hk_ti (y := nI (6 * i + 4)) (nI_inc (6 * i) 4 rfl) ?_
      refine vp_callSi (va_Run.run (va_runS (As := [.ref b, .int (nI (6 * i + 4))]) (rest := []) ⟨hx, hb, hml, hown, hts⟩ (met_ce l D b L xs (6 * i + 4) (by omega) (by omega)) (va_cwS 2 hts (lw_S q378 q379 q6 q380) rfl rfl rfl (by decide +kernel) ⟨Nat.le_of_ble_eq_true rfl, Nat.le_of_ble_eq_true rfl⟩) (hk_XS hX hbl hbA hS) rfl rfl hl.1 rfl (lv_room (Nat.le_of_ble_eq_true rfl)) dL_law_117 ⟨by show cells + 80 * i + 0 ≤ 1200192; omega, by show slots + 17152 * i + 0 ≤ 5500522; omega⟩)) (fun x10 hx10 => ?_)
      refine lv_istore (lv' := [(10, .int x10), (9, .int x9), (8, .int x8), (7, .int x7), (6, .int x6), (0, .ref b), (1, .ref qd), (2, .ref ql), (3, .ref qx), (4, .int (nI n)), (5, .int (nI (6 * i)))]) hx hb dL_law_120 hl (by decide) rfl (fun ls hl => ?_)
      refine lv_aload_n hx hb dL_law_122 rfl (lv_at hl 5 rfl) ?_
      refine lv_iload hx hb dL_law_123 (lv_at hl 10 rfl) ?_
      refine lv_iconst (v := 5) hx hb dL_law_125 (by decide) ?_
      refine lv_iadd hx hb dL_law_126 ?_
      refine hk_ti (y := nI (6 * i + 5)) (nI_inc (6 * i) 5 rfl) ?_
      refine vp_callSi (va_Run.run (va_runS (As := [.ref b, .int (nI (6 * i + 5))]) (rest := []) ⟨hx, hb, hml, hown, hts⟩ (met_ce l D b L xs (6 * i + 5) (by omega) (by omega)) (va_cwS 2 hts (lw_S q378 q379 q6 q380) rfl rfl rfl (by decide +kernel) ⟨Nat.le_of_ble_eq_true rfl, Nat.le_of_ble_eq_true rfl⟩) (hk_XS hX hbl hbA hS) rfl rfl hl.1 rfl (lv_room (Nat.le_of_ble_eq_true rfl)) dL_law_127 ⟨by show cells + 80 * i + 0 ≤ 1200192; omega, by show slots + 17152 * i + 0 ≤ 5500522; omega⟩)) (fun x11 hx11 => ?_)
      refine lv_istore (lv' := [(11, .int x11), (10, .int x10), (9, .int x9), (8, .int x8), (7, .int x7), (6, .int x6), (0, .ref b), (1, .ref qd), (2, .ref ql), (3, .ref qx), (4, .int (nI n)), (5, .int (nI (6 * i)))]) hx hb dL_law_130 hl (by decide) rfl (fun ls hl => ?_)
      refine lv_iload hx hb dL_law_132 (lv_at hl 4 rfl) ?_
      refine lv_iload hx hb dL_law_134 (lv_at hl 10 rfl) ?_
      refine lv_iconst (v := 1) hx hb dL_law_136 (by decide) ?_
      refine lv_iadd hx hb dL_law_137 ?_
      refine hk_ti (y := nI (n + 1)) (nI_1 n) ?_
      refine vp_callSi (va_Run.run (va_runS (As := [.int x7, .int (nI (n + 1))]) (rest := []) ⟨hx, hb, hml, hown, hts⟩ (met_md l D x7 (n + 1) (Nat.succ_pos n) (by omega)) (va_cwS 2 hts (lw_S q381 q382 q6 q383) rfl rfl rfl (by decide +kernel) ⟨Nat.le_of_ble_eq_true rfl, Nat.le_of_ble_eq_true rfl⟩) (hk_CS (hP.sub (ws' := []) [] rfl) (hK.sub (tys' := []) [] rfl) hN) rfl rfl hl.1 rfl (lv_room (Nat.le_of_ble_eq_true rfl)) dL_law_138 ⟨by show cells + 80 * i + 0 ≤ 1200192; omega, by show slots + 17152 * i + 0 ≤ 5500522; omega⟩)) (fun r_2 hr_2 => ?_)
      obtain rfl : r_2 = nI (mdN x7 (n + 1)) := hr_2
      refine lv_istore (lv' := [(12, .int (nI (mdN x7 (n + 1)))), (11, .int x11), (10, .int x10), (9, .int x9), (8, .int x8), (7, .int x7), (6, .int x6), (0, .ref b), (1, .ref qd), (2, .ref ql), (3, .ref qx), (4, .int (nI n)), (5, .int (nI (6 * i)))]) hx hb dL_law_141 hl (by decide) rfl (fun ls hl => ?_)
      refine lv_iload hx hb dL_law_143 (lv_at hl 4 rfl) ?_
      refine lv_iload hx hb dL_law_145 (lv_at hl 11 rfl) ?_
      refine lv_iload hx hb dL_law_147 (lv_at hl 0 rfl) ?_
      refine lv_isub hx hb dL_law_149 ?_
      refine lv_iconst (v := 1) hx hb dL_law_150 (by decide) ?_
      refine lv_iadd hx hb dL_law_151 ?_
      refine hk_ti (y := nI (n - mdN x7 (n + 1) + 1)) (by rw [pk_sub (mdN_le x7 n), nI_1]) ?_
      refine vp_callSi (va_Run.run (va_runS (As := [.int x8, .int (nI (n - mdN x7 (n + 1) + 1))]) (rest := []) ⟨hx, hb, hml, hown, hts⟩ (met_md l D x8 (n - mdN x7 (n + 1) + 1) (Nat.succ_pos _) (by omega)) (va_cwS 2 hts (lw_S q381 q382 q6 q383) rfl rfl rfl (by decide +kernel) ⟨Nat.le_of_ble_eq_true rfl, Nat.le_of_ble_eq_true rfl⟩) (hk_CS (hP.sub (ws' := []) [] rfl) (hK.sub (tys' := []) [] rfl) hN) rfl rfl hl.1 rfl (lv_room (Nat.le_of_ble_eq_true rfl)) dL_law_152 ⟨by show cells + 80 * i + 0 ≤ 1200192; omega, by show slots + 17152 * i + 0 ≤ 5500522; omega⟩)) (fun r_3 hr_3 => ?_)
      obtain rfl : r_3 = nI (mdN x8 (n - mdN x7 (n + 1) + 1)) := hr_3
      refine lv_istore (lv' := [(13, .int (nI (mdN x8 (n - mdN x7 (n + 1) + 1)))), (12, .int (nI (mdN x7 (n + 1)))), (11, .int x11), (10, .int x10), (9, .int x9), (8, .int x8), (7, .int x7), (6, .int x6), (0, .ref b), (1, .ref qd), (2, .ref ql), (3, .ref qx), (4, .int (nI n)), (5, .int (nI (6 * i)))]) hx hb dL_law_155 hl (by decide) rfl (fun ls hl => ?_)
      refine lv_iload hx hb dL_law_157 (lv_at hl 7 rfl) ?_
      refine lv_bipush (v := 12) hx hb dL_law_159 (by decide) ?_
      refine hk_ti (y := nI 12) (rfl) ?_
      refine vp_callSi (va_Run.run (va_runS (As := [.int x6, .int (nI 12)]) (rest := []) ⟨hx, hb, hml, hown, hts⟩ (met_md l D x6 12 (by decide) (by decide)) (va_cwS 2 hts (lw_S q381 q382 q6 q383) rfl rfl rfl (by decide +kernel) ⟨Nat.le_of_ble_eq_true rfl, Nat.le_of_ble_eq_true rfl⟩) (hk_CS (hP.sub (ws' := []) [] rfl) (hK.sub (tys' := []) [] rfl) hN) rfl rfl hl.1 rfl (lv_room (Nat.le_of_ble_eq_true rfl)) dL_law_161 ⟨by show cells + 80 * i + 0 ≤ 1200192; omega, by show slots + 17152 * i + 0 ≤ 5500522; omega⟩)) (fun r_4 hr_4 => ?_)
      obtain rfl : r_4 = nI (mdN x6 12) := hr_4
      have hv := mdN_lt x6 (n := 12) (by decide)
      generalize mdN x6 12 = v at hv ⊢
      have K606 : lwG p l e s m below meth c b A D qd qt ql qf qx ct cf cx (cells + 80 * i + 64) (slots + 17152 * i + 16640) 606 (fun n => lwL b qd ql qx n i ++ lwL5 x7 x8 x9 x10 x11) := act_end C0 (by omega) (by omega) (lwG_widen (L := L) (xs := xs) (by omega) (by omega) (ih (i + 1) (by omega) (by omega)))
      rcases (show v = 0 ∨ v = 1 ∨ v = 2 ∨ v = 3 ∨ v = 4 ∨ v = 5 ∨ v = 6 ∨ v = 7 ∨ v = 8 ∨ v = 9 ∨ v = 10 ∨ v = 11 by omega) with rfl | rfl | rfl | rfl | rfl | rfl | rfl | rfl | rfl | rfl | rfl | rfl
      · refine lv_tableIn (tgt := 224) (off := 60) hx hb dL_law_164 (by decide) (by decide) rfl (by decide) ?_
        exact act_0 C0 (by omega) (by omega) K606 qh n tx rv e0 fd lsz lsd ff H locs ls ⟨hK, hP, hD, hS, hn, hR⟩ (lv_sub hl [8, 9, 10, 11, 12, 13, 6, 5, 4, 3, 2, 1, 0] rfl)
      · refine lv_tableIn (tgt := 224) (off := 60) hx hb dL_law_164 (by decide) (by decide) rfl (by decide) ?_
        exact act_0 C0 (by omega) (by omega) K606 qh n tx rv e0 fd lsz lsd ff H locs ls ⟨hK, hP, hD, hS, hn, hR⟩ (lv_sub hl [8, 9, 10, 11, 12, 13, 6, 5, 4, 3, 2, 1, 0] rfl)
      · refine lv_tableIn (tgt := 224) (off := 60) hx hb dL_law_164 (by decide) (by decide) rfl (by decide) ?_
        exact act_0 C0 (by omega) (by omega) K606 qh n tx rv e0 fd lsz lsd ff H locs ls ⟨hK, hP, hD, hS, hn, hR⟩ (lv_sub hl [8, 9, 10, 11, 12, 13, 6, 5, 4, 3, 2, 1, 0] rfl)
      · refine lv_tableIn (tgt := 338) (off := 174) hx hb dL_law_164 (by decide) (by decide) rfl (by decide) ?_
        exact act_3 C0 (by omega) (by omega) K606 qh n tx rv e0 fd lsz lsd ff H locs ls ⟨hK, hP, hD, hS, hn, hR⟩ (lv_sub hl [8, 9, 10, 11, 12, 13, 6, 5, 4, 3, 2, 1, 0] rfl)
      · refine lv_tableIn (tgt := 351) (off := 187) hx hb dL_law_164 (by decide) (by decide) rfl (by decide) ?_
        exact act_4 C0 (by omega) (by omega) K606 qh n tx rv e0 fd lsz lsd ff H locs ls ⟨hK, hP, hD, hS, hn, hR⟩ (lv_sub hl [8, 9, 10, 11, 12, 13, 6, 5, 4, 3, 2, 1, 0] rfl)
      · refine lv_tableIn (tgt := 351) (off := 187) hx hb dL_law_164 (by decide) (by decide) rfl (by decide) ?_
        exact act_4 C0 (by omega) (by omega) K606 qh n tx rv e0 fd lsz lsd ff H locs ls ⟨hK, hP, hD, hS, hn, hR⟩ (lv_sub hl [8, 9, 10, 11, 12, 13, 6, 5, 4, 3, 2, 1, 0] rfl)
      · refine lv_tableIn (tgt := 371) (off := 207) hx hb dL_law_164 (by decide) (by decide) rfl (by decide) ?_
        exact act_6 C0 (by omega) (by omega) K606 qh n tx rv e0 fd lsz lsd ff H locs ls ⟨hK, hP, hD, hS, hn, hR⟩ (lv_sub hl [8, 9, 10, 11, 12, 13, 6, 5, 4, 3, 2, 1, 0] rfl)
      · refine lv_tableIn (tgt := 371) (off := 207) hx hb dL_law_164 (by decide) (by decide) rfl (by decide) ?_
        exact act_6 C0 (by omega) (by omega) K606 qh n tx rv e0 fd lsz lsd ff H locs ls ⟨hK, hP, hD, hS, hn, hR⟩ (lv_sub hl [8, 9, 10, 11, 12, 13, 6, 5, 4, 3, 2, 1, 0] rfl)
      · refine lv_tableIn (tgt := 418) (off := 254) hx hb dL_law_164 (by decide) (by decide) rfl (by decide) ?_
        exact act_8 C0 (by omega) (by omega) K606 qh n tx rv e0 fd lsz lsd ff H locs ls ⟨hK, hP, hD, hS, hn, hR⟩ (lv_sub hl [8, 9, 10, 11, 12, 13, 6, 5, 4, 3, 2, 1, 0] rfl)
      · refine lv_tableIn (tgt := 500) (off := 336) hx hb dL_law_164 (by decide) (by decide) rfl (by decide) ?_
        exact act_9 C0 (by omega) (by omega) K606 qh n tx rv e0 fd lsz lsd ff H locs ls ⟨hK, hP, hD, hS, hn, hR⟩ (lv_sub hl [8, 9, 10, 11, 12, 13, 6, 5, 4, 3, 2, 1, 0] rfl)
      · refine lv_tableIn (tgt := 596) (off := 432) hx hb dL_law_164 (by decide) (by decide) rfl (by decide) ?_
        exact act_10 C0 (by omega) (by omega) K606 qh n tx rv e0 fd lsz lsd ff H locs ls ⟨hK, hP, hD, hS, hn, hR⟩ (lv_sub hl [8, 9, 10, 11, 12, 13, 6, 5, 4, 3, 2, 1, 0] rfl)
      · refine lv_tableOut (tgt := 606) hx hb dL_law_164 (Or.inr (by decide)) (by decide) ?_
        exact W.widen (by omega) (by omega) (K606 qh n tx rv e0 fd lsz lsd ff H locs ls ⟨hK, hP, hD, hS, hn, hR⟩ (lv_sub hl [8, 9, 10, 11, 12, 13, 6, 5, 4, 3, 2] rfl))
end
section
/-! THE LAW'S ENTRY, in pieces -/
theorem mdN_0 (n : Nat) : mdN 0 (n + 1) = 0 := Nat.zero_mod _
theorem mdN_01 (v w : Int32) : mdN v (0 - mdN w (0 + 1) + 1) = 0 := by rw [Nat.zero_sub]; exact mdN_1 v
theorem app_same (d : Nat → Nat) (k j : Nat) : app d k (fun i => d (k + i)) j = d j := by
  unfold app
  rcases Nat.lt_or_ge j k with q | q
  · rw [if_pos q]
  · rw [if_neg (by omega)]
    show d (k + (j - k)) = d j
    rw [show k + (j - k) = j by omega]
theorem whole_all (tx : Nat → Int32) (n : Nat) (z : Int32) (hn : n ≤ 256) : m_hash (fun j => uN (tx j)) n z = m_hash (fun j => uN (tx (mdN 0 (n + 1) + j))) (mdN (nI n) (n - mdN 0 (n + 1) + 1)) z := by
  rw [mdN_0, Nat.sub_zero, mdN_id (Nat.lt_succ_self n) (by omega)]
  exact m_hash_congr z (fun j _ => by rw [Nat.zero_add])
set_option maxHeartbeats 4000000 in
set_option maxRecDepth 100000 in
/-- behind the acts: two closings, what is fed without a run, the whole text in pieces -/
theorem law_end {p : Program} {l : Launch} {e : Env} {s : State} {m : MethodId} {below : List Frame} {meth : Method} {c : Code} {b L : Nat} {xs : Nat → Int32} {A : Nat → Prop} {D : va_G} {qd qt ql qf qx : Nat} {ct cf cx : ClassId} {cells slots : Nat} (C0 : lwx p s m meth c b L xs A) (hce : cells ≤ 1000000) (hsl : slots ≤ 5000000) : lwG p l e s m below meth c b A D qd qt ql qf qx ct cf cx cells slots 723 (fun n => lwL b qd ql qx n 16) := by
  intro qh n tx rv e0 fd lsz lsd ff H locs ls hI hl
  obtain ⟨hK, hP, hD, hS, hn, hR⟩ := hI
  obtain ⟨hx, hb, hr, hml, hown, hts, hX, hbl, hlocks, hN, hL, hA, hA9⟩ := id C0
  have hbA : ¬ A b := fun h => absurd hbl (Nat.not_lt.mpr (hA9 b h))
  have hP : va_P D vwCl [(qd, .inr (1, [.ref qt, .int (nI n), rv, .int fd])), (qt, .inl (ct, 256, .inl tx)), (qh, e0), (ql, .inr (0, [.ref qf, .int lsz, .int lsd])), (qf, .inl (cf, 4096, .inl ff)), (qx, .inl (cx, 256, .inl tx))] H := hP
  have hD : va_D A [(qd, .inr (1, [.ref qt, .int (nI n), rv, .int fd])), (qt, .inl (ct, 256, .inl tx)), (qh, e0), (ql, .inr (0, [.ref qf, .int lsz, .int lsd])), (qf, .inl (cf, 4096, .inl ff)), (qx, .inl (cx, 256, .inl tx))] := hD
  have hK : va_K D vwCl [(ct, .byte), (cf, .byte), (cx, .byte)] s := hK
  have hl : lv_has ls 16 [(0, .ref b), (1, .ref qd), (2, .ref ql), (3, .ref qx), (4, .int (nI n)), (5, .int (nI (6 * 16)))] := hl
  refine lv_aload_n hx hb dL_law_723 rfl (lv_at hl 2 rfl) ?_
  refine lv_aload_n hx hb dL_law_724 rfl (lv_at hl 1 rfl) ?_
  refine hk_ci (wr := [(qt, .inl (ct, 256, .inl tx)), (qx, .inl (cx, 256, .inl tx))]) (va_runV (As := [.ref qd]) (rest := []) ⟨hx, hb, hml, hown, hts⟩ (met_cc l D H.size ql qf qd qh cf ff (.ref qt) (nI n) rv e0 fd lsz lsd hR) (cwV 1 hts (lw_V q406 q408 qs5 q6 q409) rfl rfl rfl (by decide +kernel) ⟨Nat.le_of_ble_eq_true rfl, Nat.le_of_ble_eq_true rfl⟩) (hk_BV (hP.sub (ws' := [(ql, .inr (0, [.ref qf, .int lsz, .int lsd])), (qf, .inl (cf, 4096, .inl ff)), (qd, .inr (1, [.ref qt, .int (nI n), rv, .int fd])), (qh, e0)]) [3, 4, 0, 2] rfl) (hK.sub (tys' := [(cf, .byte)]) [1] rfl) hN (hD.sub (ws' := [(ql, .inr (0, [.ref qf, .int lsz, .int lsd])), (qf, .inl (cf, 4096, .inl ff)), (qd, .inr (1, [.ref qt, .int (nI n), rv, .int fd])), (qh, e0)]) [3, 4, 0, 2] (by decide) rfl) (va_recv hK hP (ci := 0) (q0 := 3) rfl rfl)) rfl rfl hl.1 rfl (lv_room (Nat.le_of_ble_eq_true rfl)) dL_law_725 ⟨by show cells + 1 ≤ 1200192; omega, by show slots + 1 ≤ 5500522; omega⟩) hP hD hK hS hA [3, 4, 0, 2] [1, 5] rfl rfl (by decide) (by decide) (fun r_1 e1 H locs h_2 hP hD hK hS => ?_)
  have hP : va_P D vwCl [(qt, .inl (ct, 256, .inl tx)), (qx, .inl (cx, 256, .inl tx)), (ql, .inr (0, [.ref qf, .int (-1), .int lsd])), (qf, .inl (cf, 4096, .inl ff)), (qd, .inr (1, [.ref qt, .int (nI n), .null, .int fd])), (qh, e1)] H := hP
  have hD : va_D A [(qt, .inl (ct, 256, .inl tx)), (qx, .inl (cx, 256, .inl tx)), (ql, .inr (0, [.ref qf, .int (-1), .int lsd])), (qf, .inl (cf, 4096, .inl ff)), (qd, .inr (1, [.ref qt, .int (nI n), .null, .int fd])), (qh, e1)] := hD
  have hK := hK.sub (tys' := [(ct, .byte), (cf, .byte), (cx, .byte)]) [0, 1, 2] rfl
  obtain rfl : r_1 = 1 := h_2
  refine lv_if_eq (tgt := 773) hx hb dL_law_728 (by decide) (fun c_3 => absurd c_3 (by decide)) (fun c_3 => ?_)
  have hP := hP.sub (ws' := [(qd, .inr (1, [.ref qt, .int (nI n), .null, .int fd])), (qt, .inl (ct, 256, .inl tx)), (qh, e1), (ql, .inr (0, [.ref qf, .int (-1), .int lsd])), (qf, .inl (cf, 4096, .inl ff)), (qx, .inl (cx, 256, .inl tx))]) [4, 0, 5, 2, 3, 1] rfl
  have hD := hD.sub (ws' := [(qd, .inr (1, [.ref qt, .int (nI n), .null, .int fd])), (qt, .inl (ct, 256, .inl tx)), (qh, e1), (ql, .inr (0, [.ref qf, .int (-1), .int lsd])), (qf, .inl (cf, 4096, .inl ff)), (qx, .inl (cx, 256, .inl tx))]) [4, 0, 5, 2, 3, 1] (by decide) rfl
  refine lv_aload_n hx hb dL_law_731 rfl (lv_at hl 2 rfl) ?_
  refine lv_aload_n hx hb dL_law_732 rfl (lv_at hl 1 rfl) ?_
  refine hk_ci (wr := [(qt, .inl (ct, 256, .inl tx)), (qx, .inl (cx, 256, .inl tx))]) (va_runV (As := [.ref qd]) (rest := []) ⟨hx, hb, hml, hown, hts⟩ (met_cc l D H.size ql qf qd qh cf ff (.ref qt) (nI n) .null e1 fd (-1) lsd (Or.inl ⟨rfl, rfl⟩)) (cwV 1 hts (lw_V q406 q408 qs5 q6 q409) rfl rfl rfl (by decide +kernel) ⟨Nat.le_of_ble_eq_true rfl, Nat.le_of_ble_eq_true rfl⟩) (hk_BV (hP.sub (ws' := [(ql, .inr (0, [.ref qf, .int (-1), .int lsd])), (qf, .inl (cf, 4096, .inl ff)), (qd, .inr (1, [.ref qt, .int (nI n), .null, .int fd])), (qh, e1)]) [3, 4, 0, 2] rfl) (hK.sub (tys' := [(cf, .byte)]) [1] rfl) hN (hD.sub (ws' := [(ql, .inr (0, [.ref qf, .int (-1), .int lsd])), (qf, .inl (cf, 4096, .inl ff)), (qd, .inr (1, [.ref qt, .int (nI n), .null, .int fd])), (qh, e1)]) [3, 4, 0, 2] (by decide) rfl) (va_recv hK hP (ci := 0) (q0 := 3) rfl rfl)) rfl rfl hl.1 rfl (lv_room (Nat.le_of_ble_eq_true rfl)) dL_law_733 ⟨by show cells + 1 + 1 ≤ 1200192; omega, by show slots + 1 + 1 ≤ 5500522; omega⟩) hP hD hK hS hA [3, 4, 0, 2] [1, 5] rfl rfl (by decide) (by decide) (fun r_4 e2 H locs h_5 hP hD hK hS => ?_)
  have hP : va_P D vwCl [(qt, .inl (ct, 256, .inl tx)), (qx, .inl (cx, 256, .inl tx)), (ql, .inr (0, [.ref qf, .int (-1), .int lsd])), (qf, .inl (cf, 4096, .inl ff)), (qd, .inr (1, [.ref qt, .int (nI n), .null, .int fd])), (qh, e2)] H := hP
  have hD : va_D A [(qt, .inl (ct, 256, .inl tx)), (qx, .inl (cx, 256, .inl tx)), (ql, .inr (0, [.ref qf, .int (-1), .int lsd])), (qf, .inl (cf, 4096, .inl ff)), (qd, .inr (1, [.ref qt, .int (nI n), .null, .int fd])), (qh, e2)] := hD
  have hK := hK.sub (tys' := [(ct, .byte), (cf, .byte), (cx, .byte)]) [0, 1, 2] rfl
  obtain rfl : r_4 = 1 := h_5
  refine lv_if_eq (tgt := 773) hx hb dL_law_736 (by decide) (fun c_6 => absurd c_6 (by decide)) (fun c_6 => ?_)
  have hP := hP.sub (ws' := [(qd, .inr (1, [.ref qt, .int (nI n), .null, .int fd])), (qt, .inl (ct, 256, .inl tx)), (qh, e2), (ql, .inr (0, [.ref qf, .int (-1), .int lsd])), (qf, .inl (cf, 4096, .inl ff)), (qx, .inl (cx, 256, .inl tx))]) [4, 0, 5, 2, 3, 1] rfl
  have hD := hD.sub (ws' := [(qd, .inr (1, [.ref qt, .int (nI n), .null, .int fd])), (qt, .inl (ct, 256, .inl tx)), (qh, e2), (ql, .inr (0, [.ref qf, .int (-1), .int lsd])), (qf, .inl (cf, 4096, .inl ff)), (qx, .inl (cx, 256, .inl tx))]) [4, 0, 5, 2, 3, 1] (by decide) rfl
  refine lv_aload_n hx hb dL_law_739 rfl (lv_at hl 1 rfl) ?_
  refine lv_iconst (v := 0) hx hb dL_law_740 (by decide) ?_
  refine lv_iconst (v := 0) hx hb dL_law_741 (by decide) ?_
  refine hk_ci (wr := [(ql, .inr (0, [.ref qf, .int (-1), .int lsd])), (qf, .inl (cf, 4096, .inl ff)), (qx, .inl (cx, 256, .inl tx))]) (va_runV (As := [.int 0, .int 0]) (rest := []) ⟨hx, hb, hml, hown, hts⟩ (met_fe l D H.size qd qt qh n ct tx .null e2 fd none 0 0 hn rfl) (cwV 2 hts (lw_V q111 q112 q113 q7 q114) rfl rfl rfl (by decide +kernel) ⟨Nat.le_of_ble_eq_true rfl, Nat.le_of_ble_eq_true rfl⟩) (hk_BV (hP.sub (ws' := [(qd, .inr (1, [.ref qt, .int (nI n), .null, .int fd])), (qt, .inl (ct, 256, .inl tx)), (qh, e2)]) [0, 1, 2] rfl) (hK.sub (tys' := [(ct, .byte)]) [0] rfl) hN (hD.sub (ws' := [(qd, .inr (1, [.ref qt, .int (nI n), .null, .int fd])), (qt, .inl (ct, 256, .inl tx)), (qh, e2)]) [0, 1, 2] (by decide) rfl) (va_recv hK hP (ci := 1) (q0 := 0) rfl rfl)) rfl rfl hl.1 rfl (lv_room (Nat.le_of_ble_eq_true rfl)) dL_law_742 ⟨by show cells + 1 + 1 + 0 ≤ 1200192; omega, by show slots + 1 + 1 + 0 ≤ 5500522; omega⟩) hP hD hK hS hA [0, 1, 2] [3, 4, 5] rfl rfl (by decide) (by decide) (fun z3 u_7 H locs hf3 hP hD hK hS => ?_)
  obtain ⟨fd3, e3⟩ := u_7
  have hP : va_P D vwCl [(ql, .inr (0, [.ref qf, .int (-1), .int lsd])), (qf, .inl (cf, 4096, .inl ff)), (qx, .inl (cx, 256, .inl tx)), (qd, .inr (1, [.ref qt, .int (nI n), .null, .int fd3])), (qt, .inl (ct, 256, .inl tx)), (qh, e3)] H := hP
  have hD : va_D A [(ql, .inr (0, [.ref qf, .int (-1), .int lsd])), (qf, .inl (cf, 4096, .inl ff)), (qx, .inl (cx, 256, .inl tx)), (qd, .inr (1, [.ref qt, .int (nI n), .null, .int fd3])), (qt, .inl (ct, 256, .inl tx)), (qh, e3)] := hD
  have hK := hK.sub (tys' := [(ct, .byte), (cf, .byte), (cx, .byte)]) [0, 1, 2] rfl
  obtain rfl : z3 = 0 := hf3.1
  have hP := hP.sub (ws' := [(qd, .inr (1, [.ref qt, .int (nI n), .null, .int fd3])), (qt, .inl (ct, 256, .inl tx)), (qh, e3), (ql, .inr (0, [.ref qf, .int (-1), .int lsd])), (qf, .inl (cf, 4096, .inl ff)), (qx, .inl (cx, 256, .inl tx))]) [3, 4, 5, 0, 1, 2] rfl
  have hD := hD.sub (ws' := [(qd, .inr (1, [.ref qt, .int (nI n), .null, .int fd3])), (qt, .inl (ct, 256, .inl tx)), (qh, e3), (ql, .inr (0, [.ref qf, .int (-1), .int lsd])), (qf, .inl (cf, 4096, .inl ff)), (qx, .inl (cx, 256, .inl tx))]) [3, 4, 5, 0, 1, 2] (by decide) rfl
  refine lv_if_ne (tgt := 773) hx hb dL_law_745 (by decide) (fun c_8 => absurd (rfl) c_8) (fun c_8 => ?_)
  refine lv_aload_n hx hb dL_law_748 rfl (lv_at hl 1 rfl) ?_
  refine lv_iconst (v := 0) hx hb dL_law_749 (by decide) ?_
  refine hk_ci (wr := [(qt, .inl (ct, 256, .inl tx)), (ql, .inr (0, [.ref qf, .int (-1), .int lsd])), (qf, .inl (cf, 4096, .inl ff)), (qx, .inl (cx, 256, .inl tx))]) (va_runV (As := [.int 0]) (rest := []) ⟨hx, hb, hml, hown, hts⟩ (met_on l D H.size qd qh n (.ref qt) .null e3 fd3 none 0 hn rfl) (cwV 1 hts (lw_V q225 q226 q227 q7 q228) rfl rfl rfl (by decide +kernel) ⟨Nat.le_of_ble_eq_true rfl, Nat.le_of_ble_eq_true rfl⟩) (hk_BV (hP.sub (ws' := [(qd, .inr (1, [.ref qt, .int (nI n), .null, .int fd3])), (qh, e3)]) [0, 2] rfl) (hK.sub (tys' := []) [] rfl) hN (hD.sub (ws' := [(qd, .inr (1, [.ref qt, .int (nI n), .null, .int fd3])), (qh, e3)]) [0, 2] (by decide) rfl) (va_recv hK hP (ci := 1) (q0 := 0) rfl rfl)) rfl rfl hl.1 rfl (lv_room (Nat.le_of_ble_eq_true rfl)) dL_law_750 ⟨by show cells + 1 + 1 + 0 + 0 ≤ 1200192; omega, by show slots + 1 + 1 + 0 + 0 ≤ 5500522; omega⟩) hP hD hK hS hA [0, 2] [1, 3, 4, 5] rfl rfl (by decide) (by decide) (fun z4 u_9 H locs hf4 hP hD hK hS => ?_)
  obtain ⟨fd4, e4⟩ := u_9
  have hP : va_P D vwCl [(qt, .inl (ct, 256, .inl tx)), (ql, .inr (0, [.ref qf, .int (-1), .int lsd])), (qf, .inl (cf, 4096, .inl ff)), (qx, .inl (cx, 256, .inl tx)), (qd, .inr (1, [.ref qt, .int (nI n), .null, .int fd4])), (qh, e4)] H := hP
  have hD : va_D A [(qt, .inl (ct, 256, .inl tx)), (ql, .inr (0, [.ref qf, .int (-1), .int lsd])), (qf, .inl (cf, 4096, .inl ff)), (qx, .inl (cx, 256, .inl tx)), (qd, .inr (1, [.ref qt, .int (nI n), .null, .int fd4])), (qh, e4)] := hD
  have hK : va_K D vwCl [(ct, .byte), (cf, .byte), (cx, .byte)] s := hK
  obtain rfl : z4 = 0 := hf4.1
  have hP := hP.sub (ws' := [(qd, .inr (1, [.ref qt, .int (nI n), .null, .int fd4])), (qt, .inl (ct, 256, .inl tx)), (qh, e4), (ql, .inr (0, [.ref qf, .int (-1), .int lsd])), (qf, .inl (cf, 4096, .inl ff)), (qx, .inl (cx, 256, .inl tx))]) [4, 0, 5, 1, 2, 3] rfl
  have hD := hD.sub (ws' := [(qd, .inr (1, [.ref qt, .int (nI n), .null, .int fd4])), (qt, .inl (ct, 256, .inl tx)), (qh, e4), (ql, .inr (0, [.ref qf, .int (-1), .int lsd])), (qf, .inl (cf, 4096, .inl ff)), (qx, .inl (cx, 256, .inl tx))]) [4, 0, 5, 1, 2, 3] (by decide) rfl
  refine lv_if_ne (tgt := 773) hx hb dL_law_753 (by decide) (fun c_10 => absurd (rfl) c_10) (fun c_10 => ?_)
  refine lv_aload_n hx hb dL_law_756 rfl (lv_at hl 1 rfl) ?_
  refine lv_iconst (v := 0) hx hb dL_law_757 (by decide) ?_
  refine hk_ci (wr := [(qt, .inl (ct, 256, .inl tx)), (ql, .inr (0, [.ref qf, .int (-1), .int lsd])), (qf, .inl (cf, 4096, .inl ff)), (qx, .inl (cx, 256, .inl tx))]) (va_runV (As := [.int 0]) (rest := []) ⟨hx, hb, hml, hown, hts⟩ (met_wo l D H.size qd qh n (.ref qt) .null e4 fd4 none 0 hn rfl) (cwV 1 hts (lw_V q236 q237 q238 q7 q239) rfl rfl rfl (by decide +kernel) ⟨Nat.le_of_ble_eq_true rfl, Nat.le_of_ble_eq_true rfl⟩) (hk_BV (hP.sub (ws' := [(qd, .inr (1, [.ref qt, .int (nI n), .null, .int fd4])), (qh, e4)]) [0, 2] rfl) (hK.sub (tys' := []) [] rfl) hN (hD.sub (ws' := [(qd, .inr (1, [.ref qt, .int (nI n), .null, .int fd4])), (qh, e4)]) [0, 2] (by decide) rfl) (va_recv hK hP (ci := 1) (q0 := 0) rfl rfl)) rfl rfl hl.1 rfl (lv_room (Nat.le_of_ble_eq_true rfl)) dL_law_758 ⟨by show cells + 1 + 1 + 0 + 0 + 0 ≤ 1200192; omega, by show slots + 1 + 1 + 0 + 0 + 0 ≤ 5500522; omega⟩) hP hD hK hS hA [0, 2] [1, 3, 4, 5] rfl rfl (by decide) (by decide) (fun z5 u_11 H locs hf5 hP hD hK hS => ?_)
  obtain ⟨fd5, e5⟩ := u_11
  have hP : va_P D vwCl [(qt, .inl (ct, 256, .inl tx)), (ql, .inr (0, [.ref qf, .int (-1), .int lsd])), (qf, .inl (cf, 4096, .inl ff)), (qx, .inl (cx, 256, .inl tx)), (qd, .inr (1, [.ref qt, .int (nI n), .null, .int fd5])), (qh, e5)] H := hP
  have hD : va_D A [(qt, .inl (ct, 256, .inl tx)), (ql, .inr (0, [.ref qf, .int (-1), .int lsd])), (qf, .inl (cf, 4096, .inl ff)), (qx, .inl (cx, 256, .inl tx)), (qd, .inr (1, [.ref qt, .int (nI n), .null, .int fd5])), (qh, e5)] := hD
  have hK : va_K D vwCl [(ct, .byte), (cf, .byte), (cx, .byte)] s := hK
  obtain rfl : z5 = 0 := hf5.1
  have hP := hP.sub (ws' := [(qd, .inr (1, [.ref qt, .int (nI n), .null, .int fd5])), (qt, .inl (ct, 256, .inl tx)), (qh, e5), (ql, .inr (0, [.ref qf, .int (-1), .int lsd])), (qf, .inl (cf, 4096, .inl ff)), (qx, .inl (cx, 256, .inl tx))]) [4, 0, 5, 1, 2, 3] rfl
  have hD := hD.sub (ws' := [(qd, .inr (1, [.ref qt, .int (nI n), .null, .int fd5])), (qt, .inl (ct, 256, .inl tx)), (qh, e5), (ql, .inr (0, [.ref qf, .int (-1), .int lsd])), (qf, .inl (cf, 4096, .inl ff)), (qx, .inl (cx, 256, .inl tx))]) [4, 0, 5, 1, 2, 3] (by decide) rfl
  refine lv_if_ne (tgt := 773) hx hb dL_law_761 (by decide) (fun c_12 => absurd (rfl) c_12) (fun c_12 => ?_)
  refine lv_aload_n hx hb dL_law_764 rfl (lv_at hl 1 rfl) ?_
  refine lv_iconst (v := 0) hx hb dL_law_765 (by decide) ?_
  refine lv_iconst (v := 0) hx hb dL_law_766 (by decide) ?_
  refine hk_ci (wr := [(qt, .inl (ct, 256, .inl tx)), (ql, .inr (0, [.ref qf, .int (-1), .int lsd])), (qf, .inl (cf, 4096, .inl ff)), (qx, .inl (cx, 256, .inl tx))]) (va_runV (As := [.int 0, .int 0]) (rest := []) ⟨hx, hb, hml, hown, hts⟩ (met_wi l D H.size qd qh n (.ref qt) .null e5 fd5 none 0 0 hn rfl) (cwV 2 hts (lw_V q249 q250 q251 q7 q252) rfl rfl rfl (by decide +kernel) ⟨Nat.le_of_ble_eq_true rfl, Nat.le_of_ble_eq_true rfl⟩) (hk_BV (hP.sub (ws' := [(qd, .inr (1, [.ref qt, .int (nI n), .null, .int fd5])), (qh, e5)]) [0, 2] rfl) (hK.sub (tys' := []) [] rfl) hN (hD.sub (ws' := [(qd, .inr (1, [.ref qt, .int (nI n), .null, .int fd5])), (qh, e5)]) [0, 2] (by decide) rfl) (va_recv hK hP (ci := 1) (q0 := 0) rfl rfl)) rfl rfl hl.1 rfl (lv_room (Nat.le_of_ble_eq_true rfl)) dL_law_767 ⟨by show cells + 1 + 1 + 0 + 0 + 0 + 0 ≤ 1200192; omega, by show slots + 1 + 1 + 0 + 0 + 0 + 0 ≤ 5500522; omega⟩) hP hD hK hS hA [0, 2] [1, 3, 4, 5] rfl rfl (by decide) (by decide) (fun z6 u_13 H locs hf6 hP hD hK hS => ?_)
  obtain ⟨fd6, e6⟩ := u_13
  have hP : va_P D vwCl [(qt, .inl (ct, 256, .inl tx)), (ql, .inr (0, [.ref qf, .int (-1), .int lsd])), (qf, .inl (cf, 4096, .inl ff)), (qx, .inl (cx, 256, .inl tx)), (qd, .inr (1, [.ref qt, .int (nI n), .null, .int fd6])), (qh, e6)] H := hP
  have hD : va_D A [(qt, .inl (ct, 256, .inl tx)), (ql, .inr (0, [.ref qf, .int (-1), .int lsd])), (qf, .inl (cf, 4096, .inl ff)), (qx, .inl (cx, 256, .inl tx)), (qd, .inr (1, [.ref qt, .int (nI n), .null, .int fd6])), (qh, e6)] := hD
  have hK : va_K D vwCl [(ct, .byte), (cf, .byte), (cx, .byte)] s := hK
  obtain rfl : z6 = 0 := hf6.1
  have hP := hP.sub (ws' := [(qd, .inr (1, [.ref qt, .int (nI n), .null, .int fd6])), (qt, .inl (ct, 256, .inl tx)), (qh, e6), (ql, .inr (0, [.ref qf, .int (-1), .int lsd])), (qf, .inl (cf, 4096, .inl ff)), (qx, .inl (cx, 256, .inl tx))]) [4, 0, 5, 1, 2, 3] rfl
  have hD := hD.sub (ws' := [(qd, .inr (1, [.ref qt, .int (nI n), .null, .int fd6])), (qt, .inl (ct, 256, .inl tx)), (qh, e6), (ql, .inr (0, [.ref qf, .int (-1), .int lsd])), (qf, .inl (cf, 4096, .inl ff)), (qx, .inl (cx, 256, .inl tx))]) [4, 0, 5, 1, 2, 3] (by decide) rfl
  refine lv_if_eq (tgt := 775) hx hb dL_law_770 (by decide) (fun c_14 => ?_) (fun c_14 => absurd (rfl) c_14)
  refine lv_aload_n hx hb dL_law_775 rfl (lv_at hl 1 rfl) ?_
  refine lv_aload_n hx hb dL_law_776 rfl (lv_at hl 0 rfl) ?_
  refine lv_iconst (v := 4) hx hb dL_law_777 (by decide) ?_
  refine hk_ti (y := nI 4) (rfl) ?_
  refine vp_callSi (va_Run.run (va_runS (As := [.ref b, .int (nI 4)]) (rest := [.ref qd]) ⟨hx, hb, hml, hown, hts⟩ (met_ce l D b L xs 4 (by omega) (by decide)) (va_cwS 2 hts (lw_S q378 q379 q6 q380) rfl rfl rfl (by decide +kernel) ⟨Nat.le_of_ble_eq_true rfl, Nat.le_of_ble_eq_true rfl⟩) (hk_XS hX hbl hbA hS) rfl rfl hl.1 rfl (lv_room (Nat.le_of_ble_eq_true rfl)) dL_law_778 ⟨by show cells + 1 + 1 + 0 + 0 + 0 + 0 + 0 ≤ 1200192; omega, by show slots + 1 + 1 + 0 + 0 + 0 + 0 + 0 ≤ 5500522; omega⟩)) (fun sd hsd => ?_)
  refine hk_cv (wr := [(qt, .inl (ct, 256, .inl tx)), (qh, e6), (ql, .inr (0, [.ref qf, .int (-1), .int lsd])), (qf, .inl (cf, 4096, .inl ff)), (qx, .inl (cx, 256, .inl tx))]) (va_runV (As := [.int sd]) (rest := []) ⟨hx, hb, hml, hown, hts⟩ (met_bg l D H.size qd (.ref qt) .null (nI n) fd6 sd) (cwV 1 hts (lw_V q62 q63 q64 q7 q65) rfl rfl rfl (by decide +kernel) ⟨Nat.le_of_ble_eq_true rfl, Nat.le_of_ble_eq_true rfl⟩) (hk_BV (hP.sub (ws' := [(qd, .inr (1, [.ref qt, .int (nI n), .null, .int fd6]))]) [0] rfl) (hK.sub (tys' := []) [] rfl) hN (hD.sub (ws' := [(qd, .inr (1, [.ref qt, .int (nI n), .null, .int fd6]))]) [0] (by decide) rfl) (va_recv hK hP (ci := 1) (q0 := 0) rfl rfl)) rfl rfl hl.1 rfl (lv_room (Nat.le_of_ble_eq_true rfl)) dL_law_781 ⟨by show cells + 1 + 1 + 0 + 0 + 0 + 0 + 2 ≤ 1200192; omega, by show slots + 1 + 1 + 0 + 0 + 0 + 0 + 7 ≤ 5500522; omega⟩) hP hD hK hS hA [0] [1, 2, 3, 4, 5] rfl rfl (by decide) (by decide) (fun q1 H locs h_16 hP hD hK hS => ?_)
  have hP : va_P D vwCl [(qt, .inl (ct, 256, .inl tx)), (qh, e6), (ql, .inr (0, [.ref qf, .int (-1), .int lsd])), (qf, .inl (cf, 4096, .inl ff)), (qx, .inl (cx, 256, .inl tx)), (qd, .inr (1, [.ref qt, .int (nI n), .ref q1, .int 0])), (q1, .inr (4, [.int sd, .long 0, .int 0, .int 0, .int 0]))] H := hP
  have hD : va_D A [(qt, .inl (ct, 256, .inl tx)), (qh, e6), (ql, .inr (0, [.ref qf, .int (-1), .int lsd])), (qf, .inl (cf, 4096, .inl ff)), (qx, .inl (cx, 256, .inl tx)), (qd, .inr (1, [.ref qt, .int (nI n), .ref q1, .int 0])), (q1, .inr (4, [.int sd, .long 0, .int 0, .int 0, .int 0]))] := hD
  have hK : va_K D vwCl [(ct, .byte), (cf, .byte), (cx, .byte)] s := hK
  have hP := hP.sub (ws' := [(qd, .inr (1, [.ref qt, .int (nI n), .ref q1, .int 0])), (qt, .inl (ct, 256, .inl tx)), (q1, .inr (4, [.int sd, .long 0, .int 0, .int 0, .int 0])), (ql, .inr (0, [.ref qf, .int (-1), .int lsd])), (qf, .inl (cf, 4096, .inl ff)), (qx, .inl (cx, 256, .inl tx))]) [5, 0, 6, 2, 3, 4] rfl
  have hD := hD.sub (ws' := [(qd, .inr (1, [.ref qt, .int (nI n), .ref q1, .int 0])), (qt, .inl (ct, 256, .inl tx)), (q1, .inr (4, [.int sd, .long 0, .int 0, .int 0, .int 0])), (ql, .inr (0, [.ref qf, .int (-1), .int lsd])), (qf, .inl (cf, 4096, .inl ff)), (qx, .inl (cx, 256, .inl tx))]) [5, 0, 6, 2, 3, 4] (by decide) rfl
  refine lv_iconst (v := 0) hx hb dL_law_784 (by decide) ?_
  refine lv_istore (lv' := [(5, .int 0), (0, .ref b), (1, .ref qd), (2, .ref ql), (3, .ref qx), (4, .int (nI n))]) hx hb dL_law_785 hl (by decide) rfl (fun ls hl => ?_)
  refine lv_iconst (v := 0) hx hb dL_law_787 (by decide) ?_
  refine lv_istore (lv' := [(6, .int 0), (5, .int 0), (0, .ref b), (1, .ref qd), (2, .ref ql), (3, .ref qx), (4, .int (nI n))]) hx hb dL_law_788 hl (by decide) rfl (fun ls hl => ?_)
  have hl := lv_sub hl (l' := [(0, .ref b), (1, .ref qd), (2, .ref ql), (3, .ref qx), (4, .int (nI n)), (5, .int 0), (6, .int 0)]) [2, 3, 4, 5, 6, 1, 0] rfl
  refine W.widen (k := cells + 8) (n := slots + 16) (by omega) (by omega) ?_
  have loop1 : ∀ (k po kk : Nat), po ≤ n → n + 1 ≤ po + k → kk ≤ po → ∀ (fd9 : Int32) (e9 : va_E) (H : Heap) (locs : List Loc), va_P D vwCl [(qd, .inr (1, [.ref qt, .int (nI n), .ref q1, .int fd9])), (qt, .inl (ct, 256, .inl tx)), (q1, e9), (ql, .inr (0, [.ref qf, .int (-1), .int lsd])), (qf, .inl (cf, 4096, .inl ff)), (qx, .inl (cx, 256, .inl tx))] H → va_D A [(qd, .inr (1, [.ref qt, .int (nI n), .ref q1, .int fd9])), (qt, .inl (ct, 256, .inl tx)), (q1, e9), (ql, .inr (0, [.ref qf, .int (-1), .int lsd])), (qf, .inl (cf, 4096, .inl ff)), (qx, .inl (cx, 256, .inl tx))] → va_S A s.heap H locs → dkr (.ref q1) q1 e9 fd9 (some (sd, (fun j => uN (tx j)), po)) → ∀ (ls : Array Slot), lv_has ls 16 [(0, .ref b), (1, .ref qd), (2, .ref ql), (3, .ref qx), (4, .int (nI n)), (5, .int (nI po)), (6, .int (nI kk))] → W p l e room_1 s m (#[Value.ref b] : Array Value) below meth c H locs (cells + 8) (slots + 16) (lw_Z below #[Value.ref b] s) (F0 m 790 ls []) := by
    intro k
    induction k with
    | zero =>
      intro po kk h1 h2
      exact absurd h2 (by omega)
    | succ k ih =>
      intro po kk hpo hfu hkk fd9 e9 H locs hP hD hS hdk ls hl
      refine lv_iload hx hb dL_law_790 (lv_at hl 5 rfl) ?_
      refine lv_iload hx hb dL_law_792 (lv_at hl 4 rfl) ?_
      refine lv_icmp_ge (tgt := 863) hx hb dL_law_794 (by decide) (fun c_17 => ?_) (fun c_17 => ?_)
      · have hpn : po = n := by have h9 := le_of_nI (by omega) (by omega) c_17; omega
        subst hpn
        refine lv_aload_n hx hb dL_law_863 rfl (lv_at hl 1 rfl) ?_
        refine hk_ci (wr := [(qt, .inl (ct, 256, .inl tx)), (ql, .inr (0, [.ref qf, .int (-1), .int lsd])), (qf, .inl (cf, 4096, .inl ff)), (qx, .inl (cx, 256, .inl tx))]) (va_runV (As := []) (rest := []) ⟨hx, hb, hml, hown, hts⟩ (met_cl l D H.size qd q1 (.ref qt) (nI po) (.ref q1) e9 fd9 (some (sd, (fun j => uN (tx j)), po)) hdk) (cwV 0 hts (lw_V q266 q267 q268 q7 q269) rfl rfl rfl (by decide +kernel) ⟨Nat.le_of_ble_eq_true rfl, Nat.le_of_ble_eq_true rfl⟩) (hk_BV (hP.sub (ws' := [(qd, .inr (1, [.ref qt, .int (nI po), .ref q1, .int fd9])), (q1, e9)]) [0, 2] rfl) (hK.sub (tys' := []) [] rfl) hN (hD.sub (ws' := [(qd, .inr (1, [.ref qt, .int (nI po), .ref q1, .int fd9])), (q1, e9)]) [0, 2] (by decide) rfl) (va_recv hK hP (ci := 1) (q0 := 0) rfl rfl)) rfl rfl hl.1 rfl (lv_room (Nat.le_of_ble_eq_true rfl)) dL_law_864 ⟨by show cells + 8 + 1 ≤ 1200192; omega, by show slots + 16 + 1 ≤ 5500522; omega⟩) hP hD hK hS hA [0, 2] [1, 3, 4, 5] rfl rfl (by decide) (by decide) (fun r_18 u8 H locs h_19 hP hD hK hS => ?_)
        have hP : va_P D vwCl [(qt, .inl (ct, 256, .inl tx)), (ql, .inr (0, [.ref qf, .int (-1), .int lsd])), (qf, .inl (cf, 4096, .inl ff)), (qx, .inl (cx, 256, .inl tx)), (qd, .inr (1, [.ref qt, .int (nI po), .null, .int fd9])), (q1, u8)] H := hP
        have hD : va_D A [(qt, .inl (ct, 256, .inl tx)), (ql, .inr (0, [.ref qf, .int (-1), .int lsd])), (qf, .inl (cf, 4096, .inl ff)), (qx, .inl (cx, 256, .inl tx)), (qd, .inr (1, [.ref qt, .int (nI po), .null, .int fd9])), (q1, u8)] := hD
        have hK : va_K D vwCl [(ct, .byte), (cf, .byte), (cx, .byte)] s := hK
        obtain rfl : r_18 = m_hash (fun j => uN (tx j)) po sd := h_19
        have hP := hP.sub (ws' := [(qd, .inr (1, [.ref qt, .int (nI po), .null, .int fd9])), (qt, .inl (ct, 256, .inl tx)), (q1, u8), (ql, .inr (0, [.ref qf, .int (-1), .int lsd])), (qf, .inl (cf, 4096, .inl ff)), (qx, .inl (cx, 256, .inl tx))]) [4, 0, 5, 1, 2, 3] rfl
        have hD := hD.sub (ws' := [(qd, .inr (1, [.ref qt, .int (nI po), .null, .int fd9])), (qt, .inl (ct, 256, .inl tx)), (q1, u8), (ql, .inr (0, [.ref qf, .int (-1), .int lsd])), (qf, .inl (cf, 4096, .inl ff)), (qx, .inl (cx, 256, .inl tx))]) [4, 0, 5, 1, 2, 3] (by decide) rfl
        refine lv_istore (lv' := [(5, .int (m_hash (fun j => uN (tx j)) po sd)), (0, .ref b), (1, .ref qd), (2, .ref ql), (3, .ref qx), (4, .int (nI po)), (6, .int (nI kk))]) hx hb dL_law_867 hl (by decide) rfl (fun ls hl => ?_)
        refine lv_iload hx hb dL_law_869 (lv_at hl 0 rfl) ?_
        refine lv_aload_n hx hb dL_law_871 rfl (lv_at hl 2 rfl) ?_
        refine lv_iconst (v := 0) hx hb dL_law_872 (by decide) ?_
        refine lv_iload hx hb dL_law_873 (lv_at hl 5 rfl) ?_
        refine lv_aload_n hx hb dL_law_875 rfl (lv_at hl 1 rfl) ?_
        refine lv_iconst (v := 4) hx hb dL_law_876 (by decide) ?_
        refine hk_ti (y := nI 4) (rfl) ?_
        refine vp_callSi (va_Run.run (va_runS (As := [.ref b, .int (nI 4)]) (rest := [.int (nI po), .int 0, .ref qd, .int (m_hash (fun j => uN (tx j)) po sd)]) ⟨hx, hb, hml, hown, hts⟩ (met_ce l D b L xs 4 (by omega) (by decide)) (va_cwS 2 hts (lw_S q378 q379 q6 q380) rfl rfl rfl (by decide +kernel) ⟨Nat.le_of_ble_eq_true rfl, Nat.le_of_ble_eq_true rfl⟩) (hk_XS hX hbl hbA hS) rfl rfl hl.1 rfl (lv_room (Nat.le_of_ble_eq_true rfl)) dL_law_877 ⟨by show cells + 8 + 1 + 0 ≤ 1200192; omega, by show slots + 16 + 1 + 0 ≤ 5500522; omega⟩)) (fun sd2 hsd2 => ?_)
        refine hk_ti (y := sd) (hsd2.trans hsd.symm) ?_
        refine hk_ci (wr := [(q1, u8), (ql, .inr (0, [.ref qf, .int (-1), .int lsd])), (qf, .inl (cf, 4096, .inl ff)), (qx, .inl (cx, 256, .inl tx))]) (va_runV (As := [.int 0, .int (nI po), .int sd]) (rest := [.int (m_hash (fun j => uN (tx j)) po sd)]) ⟨hx, hb, hml, hown, hts⟩ (met_wh l D H.size qd qt po ct tx .null fd9 0 (nI po) sd hn) (cwV 3 hts (lw_V q330 q331 q332 q7 q333) rfl rfl rfl (by decide +kernel) ⟨Nat.le_of_ble_eq_true rfl, Nat.le_of_ble_eq_true rfl⟩) (hk_BV (hP.sub (ws' := [(qd, .inr (1, [.ref qt, .int (nI po), .null, .int fd9])), (qt, .inl (ct, 256, .inl tx))]) [0, 1] rfl) (hK.sub (tys' := [(ct, .byte)]) [0] rfl) hN (hD.sub (ws' := [(qd, .inr (1, [.ref qt, .int (nI po), .null, .int fd9])), (qt, .inl (ct, 256, .inl tx))]) [0, 1] (by decide) rfl) (va_recv hK hP (ci := 1) (q0 := 0) rfl rfl)) rfl rfl hl.1 rfl (lv_room (Nat.le_of_ble_eq_true rfl)) dL_law_880 ⟨by show cells + 8 + 1 + 2 ≤ 1200192; omega, by show slots + 16 + 1 + 3 ≤ 5500522; omega⟩) hP hD hK hS hA [0, 1] [2, 3, 4, 5] rfl rfl (by decide) (by decide) (fun r_20 a6 H locs h_21 hP hD hK hS => ?_)
        have hP : va_P D vwCl [(q1, u8), (ql, .inr (0, [.ref qf, .int (-1), .int lsd])), (qf, .inl (cf, 4096, .inl ff)), (qx, .inl (cx, 256, .inl tx)), (qd, .inr (1, [.ref qt, .int (nI po), .null, .int fd9])), (qt, .inl (ct, 256, .inl tx)), (a6, .inr (2, [.int sd, .int 1]))] H := hP
        have hD : va_D A [(q1, u8), (ql, .inr (0, [.ref qf, .int (-1), .int lsd])), (qf, .inl (cf, 4096, .inl ff)), (qx, .inl (cx, 256, .inl tx)), (qd, .inr (1, [.ref qt, .int (nI po), .null, .int fd9])), (qt, .inl (ct, 256, .inl tx)), (a6, .inr (2, [.int sd, .int 1]))] := hD
        have hK := hK.sub (tys' := [(ct, .byte), (cf, .byte), (cx, .byte)]) [0, 1, 2] rfl
        obtain rfl : r_20 = m_hash (fun j => uN (tx (mdN 0 (po + 1) + j))) (mdN (nI po) (po - mdN 0 (po + 1) + 1)) sd := h_21
        have hP := hP.sub (ws' := [(qd, .inr (1, [.ref qt, .int (nI po), .null, .int fd9])), (qt, .inl (ct, 256, .inl tx)), (q1, u8), (ql, .inr (0, [.ref qf, .int (-1), .int lsd])), (qf, .inl (cf, 4096, .inl ff)), (qx, .inl (cx, 256, .inl tx))]) [4, 5, 0, 1, 2, 3] rfl
        have hD := hD.sub (ws' := [(qd, .inr (1, [.ref qt, .int (nI po), .null, .int fd9])), (qt, .inl (ct, 256, .inl tx)), (q1, u8), (ql, .inr (0, [.ref qf, .int (-1), .int lsd])), (qf, .inl (cf, 4096, .inl ff)), (qx, .inl (cx, 256, .inl tx))]) [4, 5, 0, 1, 2, 3] (by decide) rfl
        refine lv_icmp_ne (tgt := 913) hx hb dL_law_883 (by decide) (fun c_22 => absurd (whole_all tx po sd hn) c_22) (fun c_22 => ?_)
        refine lv_iload hx hb dL_law_886 (lv_at hl 0 rfl) ?_
        refine lv_aload_n hx hb dL_law_888 rfl (lv_at hl 4 rfl) ?_
        refine lv_iload hx hb dL_law_889 (lv_at hl 5 rfl) ?_
        refine lv_aload_n hx hb dL_law_891 rfl (lv_at hl 1 rfl) ?_
        refine lv_iconst (v := 4) hx hb dL_law_892 (by decide) ?_
        refine hk_ti (y := nI 4) (rfl) ?_
        refine vp_callSi (va_Run.run (va_runS (As := [.ref b, .int (nI 4)]) (rest := [.int (nI po), .ref qx, .int (m_hash (fun j => uN (tx j)) po sd)]) ⟨hx, hb, hml, hown, hts⟩ (met_ce l D b L xs 4 (by omega) (by decide)) (va_cwS 2 hts (lw_S q378 q379 q6 q380) rfl rfl rfl (by decide +kernel) ⟨Nat.le_of_ble_eq_true rfl, Nat.le_of_ble_eq_true rfl⟩) (hk_XS hX hbl hbA hS) rfl rfl hl.1 rfl (lv_room (Nat.le_of_ble_eq_true rfl)) dL_law_893 ⟨by show cells + 8 + 1 + 2 + 0 ≤ 1200192; omega, by show slots + 16 + 1 + 3 + 0 ≤ 5500522; omega⟩)) (fun sd3 hsd3 => ?_)
        refine hk_ti (y := sd) (hsd3.trans hsd.symm) ?_
        refine vp_callSi (va_Run.run (va_runS (As := [.ref qx, .int (nI po), .int sd]) (rest := [.int (m_hash (fun j => uN (tx j)) po sd)]) ⟨hx, hb, hml, hown, hts⟩ (met_du l D qx 256 cx tx po sd (by decide) hn) (va_cwS 3 hts (lw_S q385 q386 q6 q387) rfl rfl rfl (by decide +kernel) ⟨Nat.le_of_ble_eq_true rfl, Nat.le_of_ble_eq_true rfl⟩) (hk_CS (hP.sub (ws' := [(qx, .inl (cx, 256, .inl tx))]) [5] rfl) (hK.sub (tys' := [(cx, .byte)]) [2] rfl) hN) rfl rfl hl.1 rfl (lv_room (Nat.le_of_ble_eq_true rfl)) dL_law_896 ⟨by show cells + 8 + 1 + 2 + 0 ≤ 1200192; omega, by show slots + 16 + 1 + 3 + 0 ≤ 5500522; omega⟩)) (fun r_23 hr_23 => ?_)
        obtain rfl : r_23 = m_hash (fun j => uN (tx j)) po sd := hr_23
        refine lv_icmp_ne (tgt := 913) hx hb dL_law_899 (by decide) (fun c_24 => absurd (rfl) c_24) (fun c_24 => ?_)
        refine lv_aload_n hx hb dL_law_902 rfl (lv_at hl 2 rfl) ?_
        refine hk_ci (wr := [(qt, .inl (ct, 256, .inl tx)), (ql, .inr (0, [.ref qf, .int (-1), .int lsd])), (qf, .inl (cf, 4096, .inl ff)), (qx, .inl (cx, 256, .inl tx))]) (va_runV (As := []) (rest := []) ⟨hx, hb, hml, hown, hts⟩ (met_cl l D H.size qd q1 (.ref qt) (nI po) .null u8 fd9 none rfl) (cwV 0 hts (lw_V q266 q267 q268 q7 q269) rfl rfl rfl (by decide +kernel) ⟨Nat.le_of_ble_eq_true rfl, Nat.le_of_ble_eq_true rfl⟩) (hk_BV (hP.sub (ws' := [(qd, .inr (1, [.ref qt, .int (nI po), .null, .int fd9])), (q1, u8)]) [0, 2] rfl) (hK.sub (tys' := []) [] rfl) hN (hD.sub (ws' := [(qd, .inr (1, [.ref qt, .int (nI po), .null, .int fd9])), (q1, u8)]) [0, 2] (by decide) rfl) (va_recv hK hP (ci := 1) (q0 := 0) rfl rfl)) rfl rfl hl.1 rfl (lv_room (Nat.le_of_ble_eq_true rfl)) dL_law_903 ⟨by show cells + 8 + 1 + 2 + 1 ≤ 1200192; omega, by show slots + 16 + 1 + 3 + 1 ≤ 5500522; omega⟩) hP hD hK hS hA [0, 2] [1, 3, 4, 5] rfl rfl (by decide) (by decide) (fun r_25 u9 H locs h_26 hP hD hK hS => ?_)
        have hP : va_P D vwCl [(qt, .inl (ct, 256, .inl tx)), (ql, .inr (0, [.ref qf, .int (-1), .int lsd])), (qf, .inl (cf, 4096, .inl ff)), (qx, .inl (cx, 256, .inl tx)), (qd, .inr (1, [.ref qt, .int (nI po), .null, .int fd9])), (q1, u9)] H := hP
        have hD : va_D A [(qt, .inl (ct, 256, .inl tx)), (ql, .inr (0, [.ref qf, .int (-1), .int lsd])), (qf, .inl (cf, 4096, .inl ff)), (qx, .inl (cx, 256, .inl tx)), (qd, .inr (1, [.ref qt, .int (nI po), .null, .int fd9])), (q1, u9)] := hD
        have hK : va_K D vwCl [(ct, .byte), (cf, .byte), (cx, .byte)] s := hK
        obtain rfl : r_25 = 0 := h_26
        refine lv_if_ne (tgt := 913) hx hb dL_law_906 (by decide) (fun c_27 => absurd (rfl) c_27) (fun c_27 => ?_)
        refine lv_iconst (v := 1) hx hb dL_law_909 (by decide) ?_
        refine lv_goto (tgt := 914) hx hb dL_law_910 (by decide) ?_
        refine va_forget (fun q hq => hA9 _ (hS.2.2 q hq)) ?_
        refine W.widen (k := 1200192) (n := 5500522) (by omega) (by omega) ?_
        exact lw_ret hx hb hr hlocks dL_law_914
      · have hpn : po < n := lt_of_nle (by omega) (by omega) c_17
        have rest : ∀ mm : Nat, 1 ≤ mm → mm ≤ n - po → ∀ (ls : Array Slot), lv_has ls 16 [(0, .ref b), (1, .ref qd), (2, .ref ql), (3, .ref qx), (4, .int (nI n)), (5, .int (nI po)), (6, .int (nI kk))] → W p l e room_1 s m (#[Value.ref b] : Array Value) below meth c H locs (cells + 8) (slots + 16) (lw_Z below #[Value.ref b] s) (F0 m 835 ls [.int (nI mm)]) := by
          intro mm h1m hmn ls hl
          refine lv_istore (lv' := [(7, .int (nI mm)), (0, .ref b), (1, .ref qd), (2, .ref ql), (3, .ref qx), (4, .int (nI n)), (5, .int (nI po)), (6, .int (nI kk))]) hx hb dL_law_835 hl (by decide) rfl (fun ls hl => ?_)
          refine lv_aload_n hx hb dL_law_837 rfl (lv_at hl 2 rfl) ?_
          refine lv_iload hx hb dL_law_838 (lv_at hl 6 rfl) ?_
          refine lv_iload hx hb dL_law_840 (lv_at hl 0 rfl) ?_
          have hF : mdN (nI po) (n + 1) = po := mdN_id (by omega) (by omega)
          have hC : mdN (nI mm) (n - po + 1) = mm := mdN_id (by omega) (by omega)
          refine hk_ci (wr := [(ql, .inr (0, [.ref qf, .int (-1), .int lsd])), (qf, .inl (cf, 4096, .inl ff)), (qx, .inl (cx, 256, .inl tx))]) (va_runV (As := [.int (nI po), .int (nI mm)]) (rest := []) ⟨hx, hb, hml, hown, hts⟩ (met_fe l D H.size qd qt q1 n ct tx (.ref q1) e9 fd9 (some (sd, (fun j => uN (tx j)), po)) (nI po) (nI mm) hn hdk) (cwV 2 hts (lw_V q111 q112 q113 q7 q114) rfl rfl rfl (by decide +kernel) ⟨Nat.le_of_ble_eq_true rfl, Nat.le_of_ble_eq_true rfl⟩) (hk_BV (hP.sub (ws' := [(qd, .inr (1, [.ref qt, .int (nI n), .ref q1, .int fd9])), (qt, .inl (ct, 256, .inl tx)), (q1, e9)]) [0, 1, 2] rfl) (hK.sub (tys' := [(ct, .byte)]) [0] rfl) hN (hD.sub (ws' := [(qd, .inr (1, [.ref qt, .int (nI n), .ref q1, .int fd9])), (qt, .inl (ct, 256, .inl tx)), (q1, e9)]) [0, 1, 2] (by decide) rfl) (va_recv hK hP (ci := 1) (q0 := 0) rfl rfl)) rfl rfl hl.1 rfl (lv_room (Nat.le_of_ble_eq_true rfl)) dL_law_842 ⟨by show cells + 8 + 0 ≤ 1200192; omega, by show slots + 16 + 0 ≤ 5500522; omega⟩) hP hD hK hS hA [0, 1, 2] [3, 4, 5] rfl rfl (by decide) (by decide) (fun z7 u_28 H locs hf7 hP hD hK hS => ?_)
          obtain ⟨fd7, e7⟩ := u_28
          have hP : va_P D vwCl [(ql, .inr (0, [.ref qf, .int (-1), .int lsd])), (qf, .inl (cf, 4096, .inl ff)), (qx, .inl (cx, 256, .inl tx)), (qd, .inr (1, [.ref qt, .int (nI n), .ref q1, .int fd7])), (qt, .inl (ct, 256, .inl tx)), (q1, e7)] H := hP
          have hD : va_D A [(ql, .inr (0, [.ref qf, .int (-1), .int lsd])), (qf, .inl (cf, 4096, .inl ff)), (qx, .inl (cx, 256, .inl tx)), (qd, .inr (1, [.ref qt, .int (nI n), .ref q1, .int fd7])), (qt, .inl (ct, 256, .inl tx)), (q1, e7)] := hD
          have hK := hK.sub (tys' := [(ct, .byte), (cf, .byte), (cx, .byte)]) [0, 1, 2] rfl
          rw [hF, hC] at hf7
          rcases hf7 with ⟨hle, rfl, hdk7⟩ | ⟨hgt, -, -⟩
          rotate_left
          · exact absurd hgt (by omega)
          have hP := hP.sub (ws' := [(qd, .inr (1, [.ref qt, .int (nI n), .ref q1, .int fd7])), (qt, .inl (ct, 256, .inl tx)), (q1, e7), (ql, .inr (0, [.ref qf, .int (-1), .int lsd])), (qf, .inl (cf, 4096, .inl ff)), (qx, .inl (cx, 256, .inl tx))]) [3, 4, 5, 0, 1, 2] rfl
          have hD := hD.sub (ws' := [(qd, .inr (1, [.ref qt, .int (nI n), .ref q1, .int fd7])), (qt, .inl (ct, 256, .inl tx)), (q1, e7), (ql, .inr (0, [.ref qf, .int (-1), .int lsd])), (qf, .inl (cf, 4096, .inl ff)), (qx, .inl (cx, 256, .inl tx))]) [3, 4, 5, 0, 1, 2] (by decide) rfl
          refine lv_if_ne (tgt := 850) hx hb dL_law_845 (by decide) (fun c_29 => ?_) (fun c_29 => absurd c_29 (by decide))
          refine lv_iload hx hb dL_law_850 (lv_at hl 6 rfl) ?_
          refine lv_iload hx hb dL_law_852 (lv_at hl 0 rfl) ?_
          refine lv_iadd hx hb dL_law_854 ?_
          refine hk_ti (y := nI (po + mm)) (nI_add _ _) ?_
          refine lv_istore (lv' := [(5, .int (nI (po + mm))), (7, .int (nI mm)), (0, .ref b), (1, .ref qd), (2, .ref ql), (3, .ref qx), (4, .int (nI n)), (6, .int (nI kk))]) hx hb dL_law_855 hl (by decide) rfl (fun ls hl => ?_)
          refine lv_iinc (v := nI (kk + 1)) (lv' := [(6, .int (nI (kk + 1))), (5, .int (nI (po + mm))), (7, .int (nI mm)), (0, .ref b), (1, .ref qd), (2, .ref ql), (3, .ref qx), (4, .int (nI n))]) hx hb dL_law_857 hl (k := 7) rfl (nI_o1 _) (by decide) rfl (fun ls hl => ?_)
          refine lv_goto (tgt := 790) hx hb dL_law_860 (by decide) ?_
          have hl := lv_sub hl (l' := [(0, .ref b), (1, .ref qd), (2, .ref ql), (3, .ref qx), (4, .int (nI n)), (5, .int (nI (po + mm))), (6, .int (nI (kk + 1)))]) [3, 4, 5, 6, 7, 1, 0] rfl
          exact ih (po + mm) (kk + 1) (by omega) (by omega) (by omega) fd7 e7 H locs hP hD hS (dkr_congr hdk7 (fun j _ => by rw [app_same (fun j => uN (tx j)) po j])) ls hl
        refine lv_iconst (v := 1) hx hb dL_law_797 (by decide) ?_
        refine lv_aload_n hx hb dL_law_798 rfl (lv_at hl 0 rfl) ?_
        refine lv_iload hx hb dL_law_799 (lv_at hl 6 rfl) ?_
        refine lv_bipush (v := 96) hx hb dL_law_801 (by decide) ?_
        refine lv_irem hx hb dL_law_803 (by decide) ?_
        refine hk_ti (y := nI (kk % 96)) (pk_rem (d := 96) (by omega) (by decide) (by decide)) ?_
        refine vp_callSi (va_Run.run (va_runS (As := [.ref b, .int (nI (kk % 96))]) (rest := [.int 1]) ⟨hx, hb, hml, hown, hts⟩ (met_ce l D b L xs (kk % 96) (by omega) (by omega)) (va_cwS 2 hts (lw_S q378 q379 q6 q380) rfl rfl rfl (by decide +kernel) ⟨Nat.le_of_ble_eq_true rfl, Nat.le_of_ble_eq_true rfl⟩) (hk_XS hX hbl hbA hS) rfl rfl hl.1 rfl (lv_room (Nat.le_of_ble_eq_true rfl)) dL_law_804 ⟨by show cells + 8 + 0 ≤ 1200192; omega, by show slots + 16 + 0 ≤ 5500522; omega⟩)) (fun v7 hv7 => ?_)
        refine lv_bipush (v := 9) hx hb dL_law_807 (by decide) ?_
        refine hk_ti (y := nI 9) (rfl) ?_
        refine vp_callSi (va_Run.run (va_runS (As := [.int v7, .int (nI 9)]) (rest := [.int 1]) ⟨hx, hb, hml, hown, hts⟩ (met_md l D v7 9 (by decide) (by decide)) (va_cwS 2 hts (lw_S q381 q382 q6 q383) rfl rfl rfl (by decide +kernel) ⟨Nat.le_of_ble_eq_true rfl, Nat.le_of_ble_eq_true rfl⟩) (hk_CS (hP.sub (ws' := []) [] rfl) (hK.sub (tys' := []) [] rfl) hN) rfl rfl hl.1 rfl (lv_room (Nat.le_of_ble_eq_true rfl)) dL_law_809 ⟨by show cells + 8 + 0 ≤ 1200192; omega, by show slots + 16 + 0 ≤ 5500522; omega⟩)) (fun r_30 hr_30 => ?_)
        obtain rfl : r_30 = nI (mdN v7 9) := hr_30
        have hv9 := mdN_lt v7 (n := 9) (by decide)
        refine lv_iadd hx hb dL_law_812 ?_
        refine hk_ti (y := nI (1 + mdN v7 9)) (nI_add 1 _) ?_
        refine lv_istore (lv' := [(7, .int (nI (1 + mdN v7 9))), (0, .ref b), (1, .ref qd), (2, .ref ql), (3, .ref qx), (4, .int (nI n)), (5, .int (nI po)), (6, .int (nI kk))]) hx hb dL_law_813 hl (by decide) rfl (fun ls hl => ?_)
        refine lv_iload hx hb dL_law_815 (lv_at hl 0 rfl) ?_
        refine lv_iload hx hb dL_law_817 (lv_at hl 5 rfl) ?_
        refine lv_iload hx hb dL_law_819 (lv_at hl 6 rfl) ?_
        refine lv_isub hx hb dL_law_821 ?_
        refine hk_ti (y := nI (n - po)) (pk_sub (by omega)) ?_
        refine lv_icmp_ge (tgt := 830) hx hb dL_law_822 (by decide) (fun c_31 => ?_) (fun c_31 => ?_)
        · refine lv_iload hx hb dL_law_830 (lv_at hl 5 rfl) ?_
          refine lv_iload hx hb dL_law_832 (lv_at hl 6 rfl) ?_
          refine lv_isub hx hb dL_law_834 ?_
          refine hk_ti (y := nI (n - po)) (pk_sub (by omega)) ?_
          have hl := lv_sub hl (l' := [(0, .ref b), (1, .ref qd), (2, .ref ql), (3, .ref qx), (4, .int (nI n)), (5, .int (nI po)), (6, .int (nI kk))]) [1, 2, 3, 4, 5, 6, 7] rfl
          exact rest (n - po) (by omega) (Nat.le_refl _) ls hl
        · have hlt := lt_of_nle (by omega) (by omega) c_31
          refine lv_iload hx hb dL_law_825 (lv_at hl 0 rfl) ?_
          refine lv_goto (tgt := 835) hx hb dL_law_827 (by decide) ?_
          have hl := lv_sub hl (l' := [(0, .ref b), (1, .ref qd), (2, .ref ql), (3, .ref qx), (4, .int (nI n)), (5, .int (nI po)), (6, .int (nI kk))]) [1, 2, 3, 4, 5, 6, 7] rfl
          exact rest (1 + mdN v7 9) (by omega) (by omega) ls hl
  exact loop1 (n + 1) 0 0 (Nat.zero_le _) (by omega) (Nat.le_refl _) 0 _ H locs hP hD hS ⟨rfl, rfl, Nat.zero_le _, sd, 0, 0, rfl, HS_0 sd _⟩ ls hl
end
section
/-! THE LAW'S ENTRY, in pieces -/
/-- the kinds of the worlds, known at the claim's start -/
theorem kinds_all {s0 : State} {b0 : Addr} (h : ∀ w ∈ lw_tbl, w.before #[Value.ref b0] s0 = true) : ∃ D : va_G, ∀ (k : Nat) (q : vw_C), vwCl[k]? = some q → u_Kn s0 q.1 q.2.1 q.2.2 (D.1 k) (D.2 k) := by
  obtain ⟨k0, i0, h0⟩ := u_known (C := RX0) (T := TX0) (N := 3) (n := 3) h (fun w hw => lw_all_tbl (in_X0 w hw)) (h _ (lw_all_tbl q363))
  obtain ⟨k1, i1, h1⟩ := u_known (C := RX1) (T := TX1) (N := 4) (n := 4) h (fun w hw => lw_all_tbl (in_X1 w hw)) (h _ (lw_all_tbl q25))
  obtain ⟨k2, i2, h2⟩ := u_known (C := RX3) (T := TX3) (N := 2) (n := 2) h (fun w hw => lw_all_tbl (in_X3 w hw)) (h _ (lw_all_tbl q67))
  obtain ⟨k3, i3, h3⟩ := u_known (C := RX7) (T := TX7) (N := 1) (n := 1) h (fun w hw => lw_all_tbl (in_X7 w hw)) (h _ (lw_all_tbl q312))
  obtain ⟨k4, i4, h4⟩ := u_known (C := RX9) (T := TX9) (N := 5) (n := 5) h (fun w hw => lw_all_tbl (in_X9 w hw)) (h _ (lw_all_tbl q87))
  refine ⟨(fun k => if k = 0 then k0 else if k = 1 then k1 else if k = 2 then k2 else if k = 3 then k3 else k4, fun k => if k = 0 then i0 else if k = 1 then i1 else if k = 2 then i2 else if k = 3 then i3 else i4), ?_⟩
  intro k q hq
  match k, hq with
  | 0, hq => cases hq; exact h0
  | 1, hq => cases hq; exact h1
  | 2, hq => cases hq; exact h2
  | 3, hq => cases hq; exact h3
  | 4, hq => cases hq; exact h4
  | k + 5, hq => simp [vwCl] at hq
set_option maxHeartbeats 4000000 in
set_option maxRecDepth 100000 in
/-- THE LAW, from its entry: for every script of at most 96 ints it comes to its end with true -/
theorem whole_start {p : Program} {e : Env} {s : State} {m : MethodId} {below : List Frame} {meth : Method} {c : Code} (l : Launch) (hflags : l.flags = flags0) {b L : Nat} {xs : Nat → Int32} (hL : L ≤ 96) (C0 : lw_At p s m meth c b L xs) : W p l e room_1 s m #[Value.ref b] below meth c s.heap [] 0 0 (lw_Z below #[Value.ref b] s) (entryFrame m ([Value.ref b] : List Value).toArray 16) := by
  obtain ⟨hx, hb, hr, hml, hown, hts0, hX, hbl, hlocks, hgv⟩ := id C0
  have hb : c.code = cL_law := hb
  have hown : s.vm.findClass RX0 = some m.cls := hown
  have hts : ∀ w ∈ lw_all, w.before (#[Value.ref b] : Array Value) s = true := fun w h => hts0 w (lw_all_tbl h)
  have hN : hk_nw s := hk_nw_of hts0
  obtain ⟨D, hKc⟩ := kinds_all hts0
  obtain ⟨A, hAe⟩ : ∃ A : Nat → Prop, A = fun q => s.heap.size ≤ q := ⟨_, rfl⟩
  have hA : ∀ q : Nat, s.heap.size ≤ q → A q := fun q h => by rw [hAe]; exact h
  have hA9 : ∀ q : Nat, A q → s.heap.size ≤ q := fun q h => by rw [hAe] at h; exact h
  have C1 : lwx p s m meth c b L xs A := ⟨hx, hb, hr, hml, hown, hts, hX, hbl, hlocks, hN, hL, hA, hA9⟩
  have hS : va_S A s.heap s.heap [] := va_S.rf
  have hK : va_K D vwCl [] s := ⟨hKc, fun k q h => by simp at h⟩
  have hP : va_P D vwCl [] s.heap := fun k q h => by simp at h
  have hD : va_D A [] := ⟨fun i j p q h => by simp at h, fun k q h => by simp at h⟩
  have hl := lv_entry ([.ref b]) (n := 16) (Nat.le_of_ble_eq_true rfl)
  rw [lg_entry_eq]
  generalize (lg_sl ([.ref b]) ++ List.replicate (16 - (lg_sl ([.ref b])).length) Slot.unset).toArray = ls at hl ⊢
  have hl : lv_has ls 16 [(0, .ref b)] := hl
  refine va_new (ci := 1) (fs := [.null, .int 0, .null, .int 0]) (C := RX1) (T := TX1) (N := 4) hx hb hts in_X1 tyX1 tyX1_ok hown (hts _ q24) (hts _ q25) (hts _ q7) hK hP hD hS hA rfl (fun j hj => by rcases (show j = 0 ∨ j = 1 ∨ j = 2 ∨ j = 3 by omega) with rfl | rfl | rfl | rfl <;> rfl) (by show 0 + 1 ≤ 1200192; omega) (by show 0 + 4 ≤ 5500522; omega) dL_law_0 (fun qd H hP hD hS => ?_)
  have hP : va_P D vwCl [(qd, .inr (1, [.null, .int 0, .null, .int 0]))] H := hP
  have hD : va_D A [(qd, .inr (1, [.null, .int 0, .null, .int 0]))] := hD
  refine lv_dup hx hb dL_law_3 rfl ?_
  refine hk_cv (wr := []) (va_runI (As := []) (rest := [.ref qd]) ⟨hx, hb, hml, hown, hts⟩ (met_di l D H.size qd) (cwI 0 hts (lw_meth q28) rfl rfl rfl (hts _ q7) (hts _ q26) (hts _ q27) rfl (by decide +kernel) ⟨Nat.le_of_ble_eq_true rfl, Nat.le_of_ble_eq_true rfl⟩) (hk_BS (hP.sub (ws' := [(qd, .inr (1, [.null, .int 0, .null, .int 0]))]) [0] rfl) (hK.sub (tys' := []) [] rfl) hN (hD.sub (ws' := [(qd, .inr (1, [.null, .int 0, .null, .int 0]))]) [0] (by decide) rfl)) rfl rfl hl.1 rfl (lv_room (Nat.le_of_ble_eq_true rfl)) dL_law_4 ⟨by show 0 + 1 + 1 ≤ 1200192; omega, by show 0 + 4 + 256 ≤ 5500522; omega⟩) hP hD hK hS hA [0] [] rfl rfl (by decide) (by decide) (fun u_3 H locs h_2 hP hD hK hS => ?_)
  obtain ⟨qt, ct⟩ := u_3
  have hP : va_P D vwCl [(qd, .inr (1, [.ref qt, .int 0, .null, .int 0])), (qt, .inl (ct, 256, .inl (fun _ => 0)))] H := hP
  have hD : va_D A [(qd, .inr (1, [.ref qt, .int 0, .null, .int 0])), (qt, .inl (ct, 256, .inl (fun _ => 0)))] := hD
  have hK : va_K D vwCl [(ct, .byte)] s := hK
  refine lv_astore_n (lv' := [(1, .ref qd), (0, .ref b)]) hx hb dL_law_7 rfl hl (by decide) rfl (fun ls hl => ?_)
  refine va_new (ci := 0) (fs := [.null, .int 0, .int 0]) (C := RX0) (T := TX0) (N := 3) hx hb hts in_X0 tyX0 tyX0_ok hown (hts _ q362) (hts _ q363) (hts _ q6) hK hP hD hS hA rfl (fun j hj => by rcases (show j = 0 ∨ j = 1 ∨ j = 2 by omega) with rfl | rfl | rfl <;> rfl) (by show 0 + 1 + 1 + 1 ≤ 1200192; omega) (by show 0 + 4 + 256 + 3 ≤ 5500522; omega) dL_law_8 (fun ql H hP hD hS => ?_)
  have hP : va_P D vwCl [(qd, .inr (1, [.ref qt, .int 0, .null, .int 0])), (qt, .inl (ct, 256, .inl (fun _ => 0))), (ql, .inr (0, [.null, .int 0, .int 0]))] H := hP
  have hD : va_D A [(qd, .inr (1, [.ref qt, .int 0, .null, .int 0])), (qt, .inl (ct, 256, .inl (fun _ => 0))), (ql, .inr (0, [.null, .int 0, .int 0]))] := hD
  refine lv_dup hx hb dL_law_11 rfl ?_
  refine hk_cv (wr := [(qd, .inr (1, [.ref qt, .int 0, .null, .int 0])), (qt, .inl (ct, 256, .inl (fun _ => 0)))]) (va_runI (As := []) (rest := [.ref ql]) ⟨hx, hb, hml, hown, hts⟩ (met_li l D H.size ql) (cwI 0 hts (lw_meth q366) rfl rfl rfl (hts _ q6) (hts _ q364) (hts _ q365) rfl (by decide +kernel) ⟨Nat.le_of_ble_eq_true rfl, Nat.le_of_ble_eq_true rfl⟩) (hk_BS (hP.sub (ws' := [(ql, .inr (0, [.null, .int 0, .int 0]))]) [2] rfl) (hK.sub (tys' := []) [] rfl) hN (hD.sub (ws' := [(ql, .inr (0, [.null, .int 0, .int 0]))]) [2] (by decide) rfl)) rfl rfl hl.1 rfl (lv_room (Nat.le_of_ble_eq_true rfl)) dL_law_12 ⟨by show 0 + 1 + 1 + 1 + 1 ≤ 1200192; omega, by show 0 + 4 + 256 + 3 + 4096 ≤ 5500522; omega⟩) hP hD hK hS hA [2] [0, 1] rfl rfl (by decide) (by decide) (fun u_6 H locs h_5 hP hD hK hS => ?_)
  obtain ⟨qf, cf⟩ := u_6
  have hP : va_P D vwCl [(qd, .inr (1, [.ref qt, .int 0, .null, .int 0])), (qt, .inl (ct, 256, .inl (fun _ => 0))), (ql, .inr (0, [.ref qf, .int (-1), .int 0])), (qf, .inl (cf, 4096, .inl (fun _ => 0)))] H := hP
  have hD : va_D A [(qd, .inr (1, [.ref qt, .int 0, .null, .int 0])), (qt, .inl (ct, 256, .inl (fun _ => 0))), (ql, .inr (0, [.ref qf, .int (-1), .int 0])), (qf, .inl (cf, 4096, .inl (fun _ => 0)))] := hD
  have hK : va_K D vwCl [(ct, .byte), (cf, .byte)] s := hK
  refine lv_astore_n (lv' := [(2, .ref ql), (1, .ref qd), (0, .ref b)]) hx hb dL_law_15 rfl hl (by decide) rfl (fun ls hl => ?_)
  refine lv_sipush (v := 256) hx hb dL_law_16 (by decide) ?_
  refine va_newa (atype := .byte) (ty := .byte) (N' := 256) (a0 := (256, .inl (fun _ => 0))) hx hb (hts _ q45) rfl hK hP hD hS hA (fun _ => rfl) (by decide) (by decide +kernel) (Nat.le_of_ble_eq_true rfl) (by show 0 + 1 + 1 + 1 + 1 + 1 ≤ 1200192; omega) (by show 0 + 4 + 256 + 3 + 4096 + 256 ≤ 5500522; omega) dL_law_19 (fun qx cx H hK hP hD hS => ?_)
  have hP : va_P D vwCl [(qd, .inr (1, [.ref qt, .int 0, .null, .int 0])), (qt, .inl (ct, 256, .inl (fun _ => 0))), (ql, .inr (0, [.ref qf, .int (-1), .int 0])), (qf, .inl (cf, 4096, .inl (fun _ => 0))), (qx, .inl (cx, 256, .inl (fun _ => 0)))] H := hP
  have hD : va_D A [(qd, .inr (1, [.ref qt, .int 0, .null, .int 0])), (qt, .inl (ct, 256, .inl (fun _ => 0))), (ql, .inr (0, [.ref qf, .int (-1), .int 0])), (qf, .inl (cf, 4096, .inl (fun _ => 0))), (qx, .inl (cx, 256, .inl (fun _ => 0)))] := hD
  have hK : va_K D vwCl [(ct, .byte), (cf, .byte), (cx, .byte)] s := hK
  have hP : va_P D vwCl [(qd, .inr (1, [.ref qt, .int (nI 0), .null, .int 0])), (qt, .inl (ct, 256, .inl (fun _ => 0))), (ql, .inr (0, [.ref qf, .int (-1), .int 0])), (qf, .inl (cf, 4096, .inl (fun _ => 0))), (qx, .inl (cx, 256, .inl (fun _ => 0)))] H := hP
  have hD : va_D A [(qd, .inr (1, [.ref qt, .int (nI 0), .null, .int 0])), (qt, .inl (ct, 256, .inl (fun _ => 0))), (ql, .inr (0, [.ref qf, .int (-1), .int 0])), (qf, .inl (cf, 4096, .inl (fun _ => 0))), (qx, .inl (cx, 256, .inl (fun _ => 0)))] := hD
  refine lv_astore_n (lv' := [(3, .ref qx), (2, .ref ql), (1, .ref qd), (0, .ref b)]) hx hb dL_law_21 rfl hl (by decide) rfl (fun ls hl => ?_)
  refine lv_iconst (v := 0) hx hb dL_law_22 (by decide) ?_
  refine lv_istore (lv' := [(4, .int 0), (3, .ref qx), (2, .ref ql), (1, .ref qd), (0, .ref b)]) hx hb dL_law_23 hl (by decide) rfl (fun ls hl => ?_)
  refine lv_aload_n hx hb dL_law_25 rfl (lv_at hl 3 rfl) ?_
  refine lv_iconst (v := 0) hx hb dL_law_26 (by decide) ?_
  refine lv_iconst (v := 0) hx hb dL_law_27 (by decide) ?_
  refine lv_iconst (v := 0) hx hb dL_law_28 (by decide) ?_
  refine hk_ci (wr := [(ql, .inr (0, [.ref qf, .int (-1), .int 0])), (qf, .inl (cf, 4096, .inl (fun _ => 0))), (qx, .inl (cx, 256, .inl (fun _ => 0)))]) (va_runV (As := [.int 0, .int 0, .int 0]) (rest := []) ⟨hx, hb, hml, hown, hts⟩ (met_wh l D H.size qd qt 0 ct (fun _ => 0) .null 0 0 0 0 (by decide)) (cwV 3 hts (lw_V q330 q331 q332 q7 q333) rfl rfl rfl (by decide +kernel) ⟨Nat.le_of_ble_eq_true rfl, Nat.le_of_ble_eq_true rfl⟩) (hk_BV (hP.sub (ws' := [(qd, .inr (1, [.ref qt, .int (nI 0), .null, .int 0])), (qt, .inl (ct, 256, .inl (fun _ => 0)))]) [0, 1] rfl) (hK.sub (tys' := [(ct, .byte)]) [0] rfl) hN (hD.sub (ws' := [(qd, .inr (1, [.ref qt, .int (nI 0), .null, .int 0])), (qt, .inl (ct, 256, .inl (fun _ => 0)))]) [0, 1] (by decide) rfl) (va_recv hK hP (ci := 1) (q0 := 0) rfl rfl)) rfl rfl hl.1 rfl (lv_room (Nat.le_of_ble_eq_true rfl)) dL_law_29 ⟨by show 0 + 1 + 1 + 1 + 1 + 1 + 2 ≤ 1200192; omega, by show 0 + 4 + 256 + 3 + 4096 + 256 + 3 ≤ 5500522; omega⟩) hP hD hK hS hA [0, 1] [2, 3, 4] rfl rfl (by decide) (by decide) (fun r_7 a5 H locs h_8 hP hD hK hS => ?_)
  have hP : va_P D vwCl [(ql, .inr (0, [.ref qf, .int (-1), .int 0])), (qf, .inl (cf, 4096, .inl (fun _ => 0))), (qx, .inl (cx, 256, .inl (fun _ => 0))), (qd, .inr (1, [.ref qt, .int (nI 0), .null, .int 0])), (qt, .inl (ct, 256, .inl (fun _ => 0))), (a5, .inr (2, [.int 0, .int 1]))] H := hP
  have hD : va_D A [(ql, .inr (0, [.ref qf, .int (-1), .int 0])), (qf, .inl (cf, 4096, .inl (fun _ => 0))), (qx, .inl (cx, 256, .inl (fun _ => 0))), (qd, .inr (1, [.ref qt, .int (nI 0), .null, .int 0])), (qt, .inl (ct, 256, .inl (fun _ => 0))), (a5, .inr (2, [.int 0, .int 1]))] := hD
  have hK := hK.sub (tys' := [(ct, .byte), (cf, .byte), (cx, .byte)]) [0, 1, 2] rfl
  obtain rfl : r_7 = m_hash (fun j => uN ((fun _ => 0 : Nat → Int32) (mdN 0 (0 + 1) + j))) (mdN 0 (0 - mdN 0 (0 + 1) + 1)) 0 := h_8
  refine hk_ti (y := 0) (by rw [mdN_01]; exact m_hash_n0 _) ?_
  refine lv_if_ne (tgt := 62) hx hb dL_law_32 (by decide) (fun c_9 => absurd (rfl) c_9) (fun c_9 => ?_)
  have hP := hP.sub (ws' := [(qd, .inr (1, [.ref qt, .int (nI 0), .null, .int 0])), (qt, .inl (ct, 256, .inl (fun _ => 0))), (a5, .inr (2, [.int 0, .int 1])), (ql, .inr (0, [.ref qf, .int (-1), .int 0])), (qf, .inl (cf, 4096, .inl (fun _ => 0))), (qx, .inl (cx, 256, .inl (fun _ => 0)))]) [3, 4, 5, 0, 1, 2] rfl
  have hD := hD.sub (ws' := [(qd, .inr (1, [.ref qt, .int (nI 0), .null, .int 0])), (qt, .inl (ct, 256, .inl (fun _ => 0))), (a5, .inr (2, [.int 0, .int 1])), (ql, .inr (0, [.ref qf, .int (-1), .int 0])), (qf, .inl (cf, 4096, .inl (fun _ => 0))), (qx, .inl (cx, 256, .inl (fun _ => 0)))]) [3, 4, 5, 0, 1, 2] (by decide) rfl
  refine lv_aload_n hx hb dL_law_35 rfl (lv_at hl 3 rfl) ?_
  refine lv_iconst (v := 0) hx hb dL_law_36 (by decide) ?_
  refine lv_iconst (v := 0) hx hb dL_law_37 (by decide) ?_
  refine lv_iconst (v := 1) hx hb dL_law_38 (by decide) ?_
  refine hk_ci (wr := [(a5, .inr (2, [.int 0, .int 1])), (ql, .inr (0, [.ref qf, .int (-1), .int 0])), (qf, .inl (cf, 4096, .inl (fun _ => 0))), (qx, .inl (cx, 256, .inl (fun _ => 0)))]) (va_runV (As := [.int 0, .int 0, .int 1]) (rest := []) ⟨hx, hb, hml, hown, hts⟩ (met_wh l D H.size qd qt 0 ct (fun _ => 0) .null 0 0 0 1 (by decide)) (cwV 3 hts (lw_V q330 q331 q332 q7 q333) rfl rfl rfl (by decide +kernel) ⟨Nat.le_of_ble_eq_true rfl, Nat.le_of_ble_eq_true rfl⟩) (hk_BV (hP.sub (ws' := [(qd, .inr (1, [.ref qt, .int (nI 0), .null, .int 0])), (qt, .inl (ct, 256, .inl (fun _ => 0)))]) [0, 1] rfl) (hK.sub (tys' := [(ct, .byte)]) [0] rfl) hN (hD.sub (ws' := [(qd, .inr (1, [.ref qt, .int (nI 0), .null, .int 0])), (qt, .inl (ct, 256, .inl (fun _ => 0)))]) [0, 1] (by decide) rfl) (va_recv hK hP (ci := 1) (q0 := 0) rfl rfl)) rfl rfl hl.1 rfl (lv_room (Nat.le_of_ble_eq_true rfl)) dL_law_39 ⟨by show 0 + 1 + 1 + 1 + 1 + 1 + 2 + 2 ≤ 1200192; omega, by show 0 + 4 + 256 + 3 + 4096 + 256 + 3 + 3 ≤ 5500522; omega⟩) hP hD hK hS hA [0, 1] [2, 3, 4, 5] rfl rfl (by decide) (by decide) (fun r_10 a6 H locs h_11 hP hD hK hS => ?_)
  have hP : va_P D vwCl [(a5, .inr (2, [.int 0, .int 1])), (ql, .inr (0, [.ref qf, .int (-1), .int 0])), (qf, .inl (cf, 4096, .inl (fun _ => 0))), (qx, .inl (cx, 256, .inl (fun _ => 0))), (qd, .inr (1, [.ref qt, .int (nI 0), .null, .int 0])), (qt, .inl (ct, 256, .inl (fun _ => 0))), (a6, .inr (2, [.int 1, .int 1]))] H := hP
  have hD : va_D A [(a5, .inr (2, [.int 0, .int 1])), (ql, .inr (0, [.ref qf, .int (-1), .int 0])), (qf, .inl (cf, 4096, .inl (fun _ => 0))), (qx, .inl (cx, 256, .inl (fun _ => 0))), (qd, .inr (1, [.ref qt, .int (nI 0), .null, .int 0])), (qt, .inl (ct, 256, .inl (fun _ => 0))), (a6, .inr (2, [.int 1, .int 1]))] := hD
  have hK := hK.sub (tys' := [(ct, .byte), (cf, .byte), (cx, .byte)]) [0, 1, 2] rfl
  obtain rfl : r_10 = m_hash (fun j => uN ((fun _ => 0 : Nat → Int32) (mdN 0 (0 + 1) + j))) (mdN 0 (0 - mdN 0 (0 + 1) + 1)) 1 := h_11
  refine hk_ti (y := 1364076727) (by rw [mdN_01]; exact m_hash_n1 _) ?_
  have hP := hP.sub (ws' := [(qd, .inr (1, [.ref qt, .int (nI 0), .null, .int 0])), (qt, .inl (ct, 256, .inl (fun _ => 0))), (a5, .inr (2, [.int 0, .int 1])), (ql, .inr (0, [.ref qf, .int (-1), .int 0])), (qf, .inl (cf, 4096, .inl (fun _ => 0))), (qx, .inl (cx, 256, .inl (fun _ => 0)))]) [4, 5, 0, 1, 2, 3] rfl
  have hD := hD.sub (ws' := [(qd, .inr (1, [.ref qt, .int (nI 0), .null, .int 0])), (qt, .inl (ct, 256, .inl (fun _ => 0))), (a5, .inr (2, [.int 0, .int 1])), (ql, .inr (0, [.ref qf, .int (-1), .int 0])), (qf, .inl (cf, 4096, .inl (fun _ => 0))), (qx, .inl (cx, 256, .inl (fun _ => 0)))]) [4, 5, 0, 1, 2, 3] (by decide) rfl
  refine lv_ldc hx hb hown (hts _ q414) dL_law_42 ?_
  refine lv_icmp_ne (tgt := 62) hx hb dL_law_44 (by decide) (fun c_12 => absurd (rfl) c_12) (fun c_12 => ?_)
  refine lv_aload_n hx hb dL_law_47 rfl (lv_at hl 3 rfl) ?_
  refine lv_iconst (v := 1) hx hb dL_law_48 (by decide) ?_
  refine hk_ci (wr := [(qt, .inl (ct, 256, .inl (fun _ => 0))), (ql, .inr (0, [.ref qf, .int (-1), .int 0])), (qf, .inl (cf, 4096, .inl (fun _ => 0))), (qx, .inl (cx, 256, .inl (fun _ => 0)))]) (va_runV (As := [.int 1]) (rest := []) ⟨hx, hb, hml, hown, hts⟩ (met_on l D H.size qd a5 0 (.ref qt) .null (.inr (2, [.int 0, .int 1])) 0 none 1 (by decide) rfl) (cwV 1 hts (lw_V q225 q226 q227 q7 q228) rfl rfl rfl (by decide +kernel) ⟨Nat.le_of_ble_eq_true rfl, Nat.le_of_ble_eq_true rfl⟩) (hk_BV (hP.sub (ws' := [(qd, .inr (1, [.ref qt, .int (nI 0), .null, .int 0])), (a5, .inr (2, [.int 0, .int 1]))]) [0, 2] rfl) (hK.sub (tys' := []) [] rfl) hN (hD.sub (ws' := [(qd, .inr (1, [.ref qt, .int (nI 0), .null, .int 0])), (a5, .inr (2, [.int 0, .int 1]))]) [0, 2] (by decide) rfl) (va_recv hK hP (ci := 1) (q0 := 0) rfl rfl)) rfl rfl hl.1 rfl (lv_room (Nat.le_of_ble_eq_true rfl)) dL_law_49 ⟨by show 0 + 1 + 1 + 1 + 1 + 1 + 2 + 2 + 0 ≤ 1200192; omega, by show 0 + 4 + 256 + 3 + 4096 + 256 + 3 + 3 + 0 ≤ 5500522; omega⟩) hP hD hK hS hA [0, 2] [1, 3, 4, 5] rfl rfl (by decide) (by decide) (fun z1 u_13 H locs hf1 hP hD hK hS => ?_)
  obtain ⟨fd1, e1⟩ := u_13
  have hP : va_P D vwCl [(qt, .inl (ct, 256, .inl (fun _ => 0))), (ql, .inr (0, [.ref qf, .int (-1), .int 0])), (qf, .inl (cf, 4096, .inl (fun _ => 0))), (qx, .inl (cx, 256, .inl (fun _ => 0))), (qd, .inr (1, [.ref qt, .int (nI 0), .null, .int fd1])), (a5, e1)] H := hP
  have hD : va_D A [(qt, .inl (ct, 256, .inl (fun _ => 0))), (ql, .inr (0, [.ref qf, .int (-1), .int 0])), (qf, .inl (cf, 4096, .inl (fun _ => 0))), (qx, .inl (cx, 256, .inl (fun _ => 0))), (qd, .inr (1, [.ref qt, .int (nI 0), .null, .int fd1])), (a5, e1)] := hD
  have hK : va_K D vwCl [(ct, .byte), (cf, .byte), (cx, .byte)] s := hK
  obtain rfl : z1 = 0 := hf1.1
  have hP := hP.sub (ws' := [(qd, .inr (1, [.ref qt, .int (nI 0), .null, .int fd1])), (qt, .inl (ct, 256, .inl (fun _ => 0))), (a5, e1), (ql, .inr (0, [.ref qf, .int (-1), .int 0])), (qf, .inl (cf, 4096, .inl (fun _ => 0))), (qx, .inl (cx, 256, .inl (fun _ => 0)))]) [4, 0, 5, 1, 2, 3] rfl
  have hD := hD.sub (ws' := [(qd, .inr (1, [.ref qt, .int (nI 0), .null, .int fd1])), (qt, .inl (ct, 256, .inl (fun _ => 0))), (a5, e1), (ql, .inr (0, [.ref qf, .int (-1), .int 0])), (qf, .inl (cf, 4096, .inl (fun _ => 0))), (qx, .inl (cx, 256, .inl (fun _ => 0)))]) [4, 0, 5, 1, 2, 3] (by decide) rfl
  refine lv_if_ne (tgt := 62) hx hb dL_law_52 (by decide) (fun c_14 => absurd (rfl) c_14) (fun c_14 => ?_)
  refine lv_aload_n hx hb dL_law_55 rfl (lv_at hl 3 rfl) ?_
  refine hk_ci (wr := [(qt, .inl (ct, 256, .inl (fun _ => 0))), (ql, .inr (0, [.ref qf, .int (-1), .int 0])), (qf, .inl (cf, 4096, .inl (fun _ => 0))), (qx, .inl (cx, 256, .inl (fun _ => 0)))]) (va_runV (As := []) (rest := []) ⟨hx, hb, hml, hown, hts⟩ (met_cl l D H.size qd a5 (.ref qt) (nI 0) .null e1 fd1 none rfl) (cwV 0 hts (lw_V q266 q267 q268 q7 q269) rfl rfl rfl (by decide +kernel) ⟨Nat.le_of_ble_eq_true rfl, Nat.le_of_ble_eq_true rfl⟩) (hk_BV (hP.sub (ws' := [(qd, .inr (1, [.ref qt, .int (nI 0), .null, .int fd1])), (a5, e1)]) [0, 2] rfl) (hK.sub (tys' := []) [] rfl) hN (hD.sub (ws' := [(qd, .inr (1, [.ref qt, .int (nI 0), .null, .int fd1])), (a5, e1)]) [0, 2] (by decide) rfl) (va_recv hK hP (ci := 1) (q0 := 0) rfl rfl)) rfl rfl hl.1 rfl (lv_room (Nat.le_of_ble_eq_true rfl)) dL_law_56 ⟨by show 0 + 1 + 1 + 1 + 1 + 1 + 2 + 2 + 0 + 1 ≤ 1200192; omega, by show 0 + 4 + 256 + 3 + 4096 + 256 + 3 + 3 + 0 + 1 ≤ 5500522; omega⟩) hP hD hK hS hA [0, 2] [1, 3, 4, 5] rfl rfl (by decide) (by decide) (fun r_15 e2 H locs h_16 hP hD hK hS => ?_)
  have hP : va_P D vwCl [(qt, .inl (ct, 256, .inl (fun _ => 0))), (ql, .inr (0, [.ref qf, .int (-1), .int 0])), (qf, .inl (cf, 4096, .inl (fun _ => 0))), (qx, .inl (cx, 256, .inl (fun _ => 0))), (qd, .inr (1, [.ref qt, .int (nI 0), .null, .int fd1])), (a5, e2)] H := hP
  have hD : va_D A [(qt, .inl (ct, 256, .inl (fun _ => 0))), (ql, .inr (0, [.ref qf, .int (-1), .int 0])), (qf, .inl (cf, 4096, .inl (fun _ => 0))), (qx, .inl (cx, 256, .inl (fun _ => 0))), (qd, .inr (1, [.ref qt, .int (nI 0), .null, .int fd1])), (a5, e2)] := hD
  have hK : va_K D vwCl [(ct, .byte), (cf, .byte), (cx, .byte)] s := hK
  obtain rfl : r_15 = 0 := h_16
  have hP := hP.sub (ws' := [(qd, .inr (1, [.ref qt, .int (nI 0), .null, .int fd1])), (qt, .inl (ct, 256, .inl (fun _ => 0))), (a5, e2), (ql, .inr (0, [.ref qf, .int (-1), .int 0])), (qf, .inl (cf, 4096, .inl (fun _ => 0))), (qx, .inl (cx, 256, .inl (fun _ => 0)))]) [4, 0, 5, 1, 2, 3] rfl
  have hD := hD.sub (ws' := [(qd, .inr (1, [.ref qt, .int (nI 0), .null, .int fd1])), (qt, .inl (ct, 256, .inl (fun _ => 0))), (a5, e2), (ql, .inr (0, [.ref qf, .int (-1), .int 0])), (qf, .inl (cf, 4096, .inl (fun _ => 0))), (qx, .inl (cx, 256, .inl (fun _ => 0)))]) [4, 0, 5, 1, 2, 3] (by decide) rfl
  refine lv_if_eq (tgt := 64) hx hb dL_law_59 (by decide) (fun c_17 => ?_) (fun c_17 => absurd (rfl) c_17)
  refine lv_iconst (v := 0) hx hb dL_law_64 (by decide) ?_
  refine lv_istore (lv' := [(5, .int 0), (4, .int 0), (3, .ref qx), (2, .ref ql), (1, .ref qd), (0, .ref b)]) hx hb dL_law_65 hl (by decide) rfl (fun ls hl => ?_)
  refine W.widen (k := 20 + 80 * 0) (n := 6000 + 17152 * 0) (by omega) (by omega) ?_
  exact law_loop C1 (by decide) (by decide) (law_end C1 (by decide) (by decide)) 17 0 (Nat.zero_le _) (by decide) a5 0 (fun _ => 0) .null e2 fd1 (-1) 0 (fun _ => 0) H locs ls ⟨hK, hP, hD, hS, Nat.zero_le _, Or.inl ⟨rfl, rfl⟩⟩ (lv_sub hl [5, 4, 3, 2, 1, 0] rfl)
set_option maxHeartbeats 4000000 in
theorem lw_walk (l : Launch) (hflags : l.flags = flags0) (b : Addr) (xs : List Int32) : MetFree l x (headSpec (Jvm.Cond.code x code maxLocals ret :: tables_1) room_1) (lw_P b xs) (fun _ _ _ _ _ => True) lw_Q := by
  refine MetFree.of_bodyS (code := code) (maxLocals := maxLocals) (ret := ret) (by decide) ?_ ?_
  · intro args s m h hn
    obtain ⟨meth, c, h1, h2, h3, h4, h5, h6, -, -⟩ := Cond.code_spec hn (atoms_spec (ws := Jvm.Cond.code x code maxLocals ret :: tables_1) h _ List.mem_cons_self)
    exact ⟨meth, c, h1, h2, h3, h4, h5, h6⟩
  · intro p e s m args below meth c s₁ B hml0 hP _
    obtain ⟨rfl, hx, hbd, hgv⟩ := hP
    obtain ⟨scr, harrAt, hlist, hof, hsmall⟩ := hx
    obtain ⟨hcb, hkn, -, -⟩ := State.arrayAt?_spec harrAt
    have hown : s.vm.findClass R_law = some m.cls := findClass_of_methodNamed B.named
    have hts0 : ∀ c ∈ (Jvm.Cond.code x code maxLocals ret :: tables_1), c.before #[Value.ref b] s = true := atoms_spec (ws := Jvm.Cond.code x code maxLocals ret :: tables_1) B.pre
    have hts : ∀ w ∈ lw_tbl, w.before #[Value.ref b] s = true := k2_hts_sels lw_privs (fun w hw => hts0 w (List.mem_cons_of_mem _ hw)) lw_privs_ok
    have hml : c.maxLocals = 16 := B.maxLocals_eq (hts0 _ List.mem_cons_self)
    have X₀ : Stand p l e room_1 s m #[Value.ref b] below meth c s₁ [] 0 0 := Stand.of_body B
    have hh0 : s₁.heap = s.heap := by rw [B.state]; rfl
    have hsz : scr.slots.size = xs.length := by rw [← Array.length_toList, hlist, List.length_map]
    have hval : ∀ j : Nat, j < xs.length → scr.slots[j]? = some (.int (xs.getD j 0)) := fun j hj => by
      rw [← Array.getElem?_toList, hlist]
      simp [hj]
    have hbl : b < s.heap.size := (Array.getElem?_eq_some_iff.mp hcb).1
    have hX : va_X b xs.length (fun j => xs.getD j 0) s s.heap := ⟨scr, hcb, hof, hkn, hsz, hval⟩
    have K : W p l e room_1 s m #[Value.ref b] below meth c s₁.heap [] 0 0 (lw_Z below #[Value.ref b] s) (entryFrame m ([Value.ref b] : List Value).toArray 16) := by
      rw [hh0]
      exact whole_start l hflags hbd ⟨B.exec, B.bytes, B.returns, hml, hown, hts, hX, hbl, B.notSynchronized, hgv⟩
    obtain ⟨t, a1, o, b1, b2, b3⟩ := K s₁ rfl X₀
    exact ⟨t, o, a1, b1, b2, b3⟩
theorem lw_pre_spec {args : Array Value} {s : State} (h : (Jvm.Cond.and given_1 narrow_1).before args s = true) (hr : rest_1_c.before args s = true) : ∃ (b : Addr) (xs : List Int32), lw_P b xs args s := by
  have hs := flat_of_before _ h
  have hq := flat_of_before _ hr
  have hc : (Cond.count 1).before args s = true := hs _ (by decide +kernel)
  have harr : (Cond.arrayOf (.arg 0) .int).before args s = true := hs _ (by decide +kernel)
  have hle : (Cond.le (.length (.arg 0)) (.int 96)).before args s = true := hs _ (by decide +kernel)
  have hlen : (Cond.isInt (.length (.arg 0))).before args s = true := hq _ (by decide +kernel)
  have hall : (Cond.all (.arg 0) (.isInt (.elem (.arg 0) (.index 0)))).before args s = true := hq _ (by decide +kernel)
  obtain ⟨b, xs, hb, hx⟩ := State.ints_of_pre rfl harr hlen hall
  have hsm : xs.length < 2 ^ 31 := hx.choose_spec.2.2.2
  have hev : (Term.length (.arg 0)).eval args s none [] s = some (.int xs.length.toInt32) := hx.length_eval hb
  have hv := Cond.le_ints hev (show (Term.int 96).eval args s none [] s = some (.int 96) from rfl)
  have hd : xs.length.toInt32 ≤ 96 := by
    simpa [Cond.before, Cond.holds, hv] using hle
  have hN : xs.length ≤ 96 := (Int32.ofNat_le_ofNat hsm (by decide)).mp (show Int32.ofNat xs.length ≤ Int32.ofNat 96 from hd)
  exact ⟨b, xs, Cond.one_arg hc (show args[0]? = some (.ref b) from hb), hx, hN, h⟩
theorem lw_comes (l : Launch) (hflags : l.flags = flags0) : Comes l x (Jvm.Cond.code x code maxLocals ret :: tables_1) room_1 (fun tb e args s => Calls_1 tb e args s ∧ rest_1 tb e args s ∧ Pre_1 tb e args s)
    (fun _ _ args s o t => lw_Q args s o t) := by
  intro p e ha hc hk s m args below hf hfit hheap happ hpre
  obtain ⟨b, xs, hP⟩ := lw_pre_spec hpre.2.2 hpre.2.1
  obtain ⟨k, o, h1, h2, h3, hQ⟩ := lw_walk l hflags b xs p e ha hc hk s m args below hf ((Spec.applies_iff_loose hf).mp happ).1 hP trivial
  exact ⟨k, o, h1, h2, h3, hQ⟩
theorem lw_frame {s t : State} {o : Outcome} {args : Array Value} (h : Framed s o t [] 1200192 5500522) :
    Framed s o t (fieldLocs frame_1_writes args s ++ arrayLocs frame_1_arrays args s ++ staticLocs frame_1_statics s) 1200192 5500522 := h
theorem lw_limb (L : Cond) (hL : ∀ (args : Array Value) (s t : State), L.after args s (.returned (some (.int 1))) t = true) :
    ArmFor flags0 classFile x code maxLocals ret World_1 tables_1 room_1 Calls_1 rest_1 Pre_1
      (fun tb e a s o t => postC L tb e a s o t ∧ Framed s o t (fieldLocs frame_1_writes a s ++ arrayLocs frame_1_arrays a s ++ staticLocs frame_1_statics s) 1200192 5500522) := by
  intro l hflags _ _ p e ha hc hk s m args below hf hfit hheap happ hpre
  obtain ⟨k, o, h1, h2, h3, rfl, hF⟩ := lw_comes l hflags p e ha hc hk s m args below hf hfit hheap happ hpre
  exact ⟨k, _, h1, h2, h3, hL args s _, lw_frame hF⟩
theorem i_vc : Claimed_1_1 ∧ Claimed_1_2 := ⟨lw_limb limb_1_1 (fun args s t => by simp [limb_1_1, Cond.after, Cond.holds, Cond.value]), lw_limb limb_1_2 (fun args s t => Cond.after_iff.mpr (by
  first | (rw [show limb_1_2 = Cond.eq .result (.int 1) from rfl, Cond.eq_ints (x := 1) (y := 1) rfl rfl]; simp; done) | (simp [limb_1_2, Cond.value, Term.eval]; done)))⟩
end
